import PyProof.Rows.All
import Imp.Common
import KE.KAnyBase
import KE.KBoundM
import KE.KCallOwn
import KE.KDictIter
import KE.KItem
import KE.KNest
import KE.KOpsOwn
import KE.KSortAsk
import KE.KSortTup
import KE.KStar
import KE.KTypeName
import KE.KTypeOf
import KE.KWithOwn
import KE.KxPercent
import ObjForm.Claim3
import Open.Boot
import Open.Claim
import Open.FastLooks
import Open.FastRun
import Open.FastT9
import Open.Head
import Open.Line
import Open.Row
import Open.Seg
import Open.Tree
import Open.TreeImp
import OpenK.KCall
import OpenK.KCell
import OpenK.KCls
import OpenK.KDescr
import OpenK.KDict
import OpenK.KFacts
import OpenK.KGet
import OpenK.KList
import OpenK.KMake
import OpenK.KMeth
import OpenK.KMore
import OpenK.KOps
import OpenK.KWalk
import OpenK.Peek
import Wide.Bridge
import Wide.BridgeG
import Wide.Claim
import Wide.Data
import Wide.Ends
import Wide.Head
import Wide.Lay
import Wide.Loose
import Wide.ObjOpen
import Wide.OfPy
import Wide.OfTm
import Wide.OneHead
import Wide.Pins
import Wide.Reads
import Wide.Row
import Wide.Tac
import Wide.Tm
import Wide.Vals
import Wide.Well
import Wide.FinOn
import Lean
import PySem.Challenge.RW_ki0008_02
set_option Elab.async false
set_option maxRecDepth 100000
set_option linter.unusedVariables false
set_option linter.unusedSimpArgs false
set_option compiler.extract_closed false
set_option genSizeOf false
namespace Mine
open PySem PySem.W PySem.Calls PyProof.Rows
def aT (k:Lean.SyntaxNodeKind) (l:List Lean.Syntax):Lean.Syntax:=.node .none k l.toArray
def aS (l:List Lean.Syntax):Lean.Syntax:=aT ``Lean.Parser.Tactic.tacticSeq [aT ``Lean.Parser.Tactic.tacticSeq1Indented [aT `null l]]
def aF:Lean.Syntax:=aT ``Lean.Parser.Tactic.tacticRfl [Lean.mkAtom "rfl"]
def aU:Lean.Syntax:=aT ``Lean.Parser.Tactic.withUnfoldingAll [Lean.mkAtom "with_unfolding_all",aS [aF]]
def aR:Lean.Syntax:=aS [aF]
def aW:Lean.Syntax:=aS [aU]
def aI:Lean.Syntax:=aS [aT ``Lean.Parser.Tactic.intro [Lean.mkAtom "intro",aT `null [aT ``Lean.Parser.Term.hole [Lean.mkAtom "_"]]],Lean.mkAtom ";",aU]
section
noncomputable section
noncomputable abbrev so (x:String):Str:=Str.ofString x
noncomputable def sv (x:String) (t:Tok):Value:=.str (Str.ofString x) t
noncomputable def fo (f:FuncData):Obj:=⟨.type "function", none,.func f,#[]⟩
noncomputable def co (a:String) (t1:Tok) (b:String) (t2 t3:Tok) (i1 i2 i3 i4 i5:Int) (r1:Addr) (x:Bool) (i6:Int) (r2:Addr) (v:Value) (r3 r4 r5:Addr) (i7 i8:Int) (t4:Tok):Obj :=
 ⟨.type "code", none,.fields #[sv a t1,sv b t2,sv "/claim/cut.py" t3,.int i1 0,.int i2 0,.int i3 0,.int i4 0,.int i5 0,.ref r1,.bool x,.int i6 0,.ref r2,v,.ref r3,.ref r4,.ref r5,.int i7 0,.int i8 0,sv "/claim/cut.py" t4],#[]⟩
noncomputable def dE (P:Params) (x:String) (t:Tok) (v:Value):DictEntry:=⟨PyData.keyHash P (Str.ofString x),.str (Str.ofString x) t,v⟩
noncomputable def dNth:List Stmt→Nat→Stmt
 | [],_=>.Pass ⟨0,0,0,0⟩
 | s::_,0=>s
 | _::r,n+1=>dNth r n
noncomputable def dIn:Stmt→List Stmt
 | .ClassDef _ _ _ b _ _ _ _ _ _ _=>b
 | _=>[]
noncomputable def dAt:List Nat→Stmt
 | [i]=>dNth PySem.Challenge.pw_ki0008_02.main.body i
 | [i,j]=>dNth (dIn (dNth PySem.Challenge.pw_ki0008_02.main.body i)) j
 | [i,j,k]=>dNth (dIn (dNth (dIn (dNth PySem.Challenge.pw_ki0008_02.main.body i)) j)) k
 | _=>.Pass ⟨0,0,0,0⟩
noncomputable def dParamsS:Stmt→Arguments
 | .FunctionDef _ a _ _ _ _ _ _ _ _=>a
 | _=>⟨[],[],none,[],[],none,[]⟩
noncomputable def dBodyS:Stmt→FuncBody
 | .FunctionDef _ _ b _ _ _ _ _ _ _=>.stmts b
 | _=>.stmts []
noncomputable def dScopeS:Stmt→Scope
 | .FunctionDef _ _ _ _ _ _ s _ _ _=>s
 | _=>{ kind:=.function,names:=[],isGenerator:=false,isCoroutine:=false }
noncomputable def dParams (l:List Nat):Arguments:=dParamsS (dAt l)
noncomputable def dBody (l:List Nat):FuncBody:=dBodyS (dAt l)
noncomputable def dScope (l:List Nat):Scope:=dScopeS (dAt l)
noncomputable def o2 (P:Params):Obj:=⟨.none,none,(.dict (List.toArray [dE P "\x69mport.loaded._collections" 185 (.bool true),dE P "class._frozen_\x69mportlib.BuiltinImporter" 187 (.ref 15),dE P "watched.\x69mport" 208 (.ref 19),dE P "class._frozen_\x69mportlib.ModuleSpec" 218 (.ref 23),dE P "sys.modules.booked-epoch" 247 (.int 4 0),dE P "sys.modules.landed._collections" 248 (.bool true),dE P "\x69mport.later-laid._collections" 263 (.bool true),dE P "watched.library" 265 (.ref 28),dE P "watched.library-objects" 0 (sv "\x0d\x1f" 0),dE P "watched.library-deep._collections" 266 (sv "\x04\x00\x00\x0c\x04\x00\x00\x0c\x04\x00\x00\x03\x04\x00\x00\x0c\x08\x04dict\x02" 0),dE P "\x69mport.loaded._heapq" 279 (.bool true),dE P "class._frozen_\x69mportlib_external._LoaderBasics" 284 (.ref 34),dE P "class._frozen_\x69mportlib_external.FileLoader" 300 (.ref 39),dE P "class._frozen_\x69mportlib_external.ExtensionFileLoader" 321 (.ref 44),dE P "\x69mport.later-laid._heapq" 369 (.bool true)]) 15),#[]⟩
noncomputable def o3 (P:Params):Obj:=⟨(.type "dict"),none,(.dict (List.toArray [dE P "__name__" 165 (sv "law_ki0008_02" 2137),dE P "__doc__" 166 .none,dE P "__package__" 167 .none,dE P "__loader__" 168 (.builtin "__main__.__loader__#opaque"),dE P "__spec__" 169 .none,dE P "__annotations__" 170 (.ref 6),dE P "__builtins__" 171 (.ref 4),dE P "__file__" 173 (sv "/claim/cut.py" 172),dE P "__cached__" 174 .none,dE P "deque" 272 (.type "collections.deque"),dE P "heapify" 376 (.builtin "_heapq.heapify"),dE P "heappop" 379 (.builtin "_heapq.heappop"),dE P "heappush" 382 (.builtin "_heapq.heappush"),dE P "_wall" 395 (.ref 60),dE P "_pe_dict" 403 (.ref 67),dE P "_pe_name" 410 (.ref 74),dE P "ABCMeta" 436 (.ref 91),dE P "_ABCLike" 479 (.ref 124),dE P "_abc_plain_meta" 486 (.ref 133),dE P "_abc_has_iter" 493 (.ref 140),dE P "_abc_has_len" 500 (.ref 147),dE P "_abc_has_contains" 507 (.ref 154),dE P "_abc_is_mappingproxy" 514 (.ref 161),dE P "_abc_is_builtin_collection" 521 (.ref 168),dE P "Iterable" 562 (.ref 201),dE P "Sized" 599 (.ref 231),dE P "Container" 646 (.ref 267),dE P "Collection" 676 (.ref 290),dE P "Set" 833 (.ref 406),dE P "Mapping" 921 (.ref 478),dE P "MappingView" 989 (.ref 528),dE P "KeysView" 1049 (.ref 575),dE P "ItemsView" 1113 (.ref 620),dE P "ValuesView" 1156 (.ref 655),dE P "MutableMapping" 1245 (.ref 730),dE P "Cache" 1432 (.ref 865),dE P "_TimedCache" 1609 (.ref 1013),dE P "monotonic" 1619 (.ref 1022),dE P "TTLCache" 1818 (.ref 1155),dE P "_gt_from_lt" 1829 (.ref 1164),dE P "_le_from_lt" 1838 (.ref 1171),dE P "_ge_from_lt" 1847 (.ref 1178),dE P "_ge_from_le" 1856 (.ref 1185),dE P "_lt_from_le" 1865 (.ref 1192),dE P "_gt_from_le" 1874 (.ref 1199),dE P "_lt_from_gt" 1883 (.ref 1206),dE P "_ge_from_gt" 1892 (.ref 1213),dE P "_le_from_gt" 1901 (.ref 1220),dE P "_le_from_ge" 1910 (.ref 1227),dE P "_gt_from_ge" 1919 (.ref 1234),dE P "_lt_from_ge" 1928 (.ref 1241),dE P "total_ordering" 1939 (.ref 1248),dE P "TLRUCache" 2136 (.ref 1373),dE P "_law_row" 2144 (.ref 1380),dE P "_law_without" 2150 (.ref 1385),dE P "_law_deed" 2156 (.ref 1390),dE P "_law_put" 2168 (.ref 1397),dE P "_law_due" 2174 (.ref 1402),dE P "law" 2180 (.ref 1407)]) 59),#[]⟩
noncomputable def o90 (P:Params):Obj:=⟨(.type "dict"),none,(.dict (List.toArray [dE P "__module__" 420 (sv "abc" 411),dE P "__firstlineno__" 424 (.int 16 423),dE P "register" 432 (.ref 88),dE P "__static_attributes__" 433 (.ref 89),dE P "__doc__" 434 .none]) 2),#[]⟩
noncomputable def o91 (P:Params):Obj:=⟨(.type "type"),none,(.cls ⟨(so "ABCMeta"),[(.type "type")],[(.ref 91),(.type "type"),(.type "object")],90,(so "ABCMeta"),true,[],[(.ref 124)],false,none,false⟩),#[(some (.ref 75)),none,(some (sv "ABCMeta" 413)),(some (sv "ABCMeta" 421)),(some (.builtin "type.__new__")),(some (.bool true))]⟩
noncomputable def o123 (P:Params):Obj:=⟨(.type "dict"),none,(.dict (List.toArray [dE P "__module__" 446 (sv "collections.abc" 437),dE P "__firstlineno__" 450 (.int 21 449),dE P "__instancecheck__" 459 (.ref 107),dE P "__subclasscheck__" 467 (.ref 114),dE P "register" 475 (.ref 121),dE P "__static_attributes__" 476 (.ref 122),dE P "__doc__" 477 .none]) 2),#[]⟩
noncomputable def o124 (P:Params):Obj:=⟨(.type "type"),none,(.cls ⟨(so "_ABCLike"),[(.ref 91)],[(.ref 124),(.ref 91),(.type "type"),(.type "object")],123,(so "_ABCLike"),true,[],[],false,none,false⟩),#[(some (.ref 94)),none,(some (sv "_ABCLike" 439)),(some (sv "_ABCLike" 447)),(some (.builtin "type.__new__")),(some (.bool true))]⟩
noncomputable def o200 (P:Params):Obj:=⟨(.type "dict"),none,(.dict (List.toArray [dE P "__module__" 529 (sv "collections.abc" 437),dE P "__firstlineno__" 533 (.int 52 532),dE P "__slots__" 534 (.ref 176),dE P "__iter__" 541 (.ref 183),dE P "_abc_kind" 549 (.ref 190),dE P "__class_getitem__" 557 (.ref 202),dE P "__static_attributes__" 558 (.ref 198),dE P "__doc__" 560 .none,dE P "__abstractmethods__" 567 (.ref 205)]) 3),#[]⟩
noncomputable def o201 (P:Params):Obj:=⟨(.ref 124),none,(.cls ⟨(so "Iterable"),[(.type "object")],[(.ref 201),(.type "object")],200,(so "Iterable"),false,[],[(.ref 290)],true,none,false⟩),#[none,none,(some (sv "Iterable" 522)),(some (sv "Iterable" 530)),(some (.builtin "object.__new__")),(some (.bool false))]⟩
noncomputable def o230 (P:Params):Obj:=⟨(.type "dict"),none,(.dict (List.toArray [dE P "__module__" 575 (sv "collections.abc" 437),dE P "__firstlineno__" 579 (.int 68 578),dE P "__slots__" 580 (.ref 213),dE P "__len__" 587 (.ref 220),dE P "_abc_kind" 595 (.ref 227),dE P "__static_attributes__" 596 (.ref 228),dE P "__doc__" 597 .none,dE P "__abstractmethods__" 604 (.ref 234)]) 3),#[]⟩
noncomputable def o231 (P:Params):Obj:=⟨(.ref 124),none,(.cls ⟨(so "Sized"),[(.type "object")],[(.ref 231),(.type "object")],230,(so "Sized"),false,[],[(.ref 290),(.ref 528)],true,none,false⟩),#[none,none,(some (sv "Sized" 568)),(some (sv "Sized" 576)),(some (.builtin "object.__new__")),(some (.bool false))]⟩
noncomputable def o266 (P:Params):Obj:=⟨(.type "dict"),none,(.dict (List.toArray [dE P "__module__" 612 (sv "collections.abc" 437),dE P "__firstlineno__" 616 (.int 80 615),dE P "__slots__" 617 (.ref 242),dE P "__contains__" 625 (.ref 249),dE P "_abc_kind" 633 (.ref 256),dE P "__class_getitem__" 641 (.ref 268),dE P "__static_attributes__" 642 (.ref 264),dE P "__doc__" 644 .none,dE P "__abstractmethods__" 651 (.ref 271)]) 3),#[]⟩
noncomputable def o267 (P:Params):Obj:=⟨(.ref 124),none,(.cls ⟨(so "Container"),[(.type "object")],[(.ref 267),(.type "object")],266,(so "Container"),false,[],[(.ref 290)],true,none,false⟩),#[none,none,(some (sv "Container" 605)),(some (sv "Container" 613)),(some (.builtin "object.__new__")),(some (.bool false))]⟩
noncomputable def o289 (P:Params):Obj:=⟨(.type "dict"),none,(.dict (List.toArray [dE P "__module__" 659 (sv "collections.abc" 437),dE P "__firstlineno__" 663 (.int 95 662),dE P "__slots__" 664 (.ref 279),dE P "_abc_kind" 672 (.ref 286),dE P "__static_attributes__" 673 (.ref 287),dE P "__doc__" 674 .none,dE P "__abstractmethods__" 683 (.ref 293)]) 3),#[]⟩
noncomputable def o290 (P:Params):Obj:=⟨(.ref 124),none,(.cls ⟨(so "Collection"),[(.ref 231),(.ref 201),(.ref 267)],[(.ref 290),(.ref 231),(.ref 201),(.ref 267),(.type "object")],289,(so "Collection"),false,[],[(.ref 406),(.ref 478),(.ref 655)],true,none,false⟩),#[(some (.ref 272)),none,(some (sv "Collection" 652)),(some (sv "Collection" 660)),(some (.builtin "object.__new__")),(some (.bool false))]⟩
noncomputable def o477 (P:Params):Obj:=⟨(.type "dict"),none,(.dict (List.toArray [dE P "__module__" 848 (sv "collections.abc" 437),dE P "__firstlineno__" 852 (.int 195 851),dE P "__slots__" 853 (.ref 417),dE P "__getitem__" 861 (.ref 424),dE P "get" 870 (.ref 432),dE P "__contains__" 878 (.ref 439),dE P "keys" 885 (.ref 446),dE P "items" 892 (.ref 453),dE P "values" 899 (.ref 460),dE P "__eq__" 907 (.ref 467),dE P "__reversed__" 908 .none,dE P "_abc_kind" 916 (.ref 474),dE P "__static_attributes__" 917 (.ref 475),dE P "__doc__" 918 .none,dE P "__hash__" 919 .none,dE P "__abstractmethods__" 928 (.ref 481)]) 4),#[]⟩
noncomputable def o478 (P:Params):Obj:=⟨(.ref 124),none,(.cls ⟨(so "Mapping"),[(.ref 290)],[(.ref 478),(.ref 290),(.ref 231),(.ref 201),(.ref 267),(.type "object")],477,(so "Mapping"),false,[],[(.ref 730)],true,none,false⟩),#[(some (.ref 410)),none,(some (sv "Mapping" 841)),(some (sv "Mapping" 849)),(some (.builtin "object.__new__")),(some (.bool false))]⟩
noncomputable def o729 (P:Params):Obj:=⟨(.type "dict"),none,(.dict (List.toArray [dE P "__module__" 1164 (sv "collections.abc" 437),dE P "__firstlineno__" 1168 (.int 319 1167),dE P "__slots__" 1169 (.ref 665),dE P "__setitem__" 1178 (.ref 672),dE P "__delitem__" 1186 (.ref 679),dE P "_MutableMapping__marker" 1187 (.ref 680),dE P "pop" 1197 (.ref 688),dE P "popitem" 1206 (.ref 695),dE P "clear" 1213 (.ref 702),dE P "update" 1224 (.ref 711),dE P "setdefault" 1233 (.ref 719),dE P "_abc_kind" 1241 (.ref 726),dE P "__static_attributes__" 1242 (.ref 727),dE P "__doc__" 1243 .none,dE P "__abstractmethods__" 1254 (.ref 733)]) 3),#[]⟩
noncomputable def o730 (P:Params):Obj:=⟨(.ref 124),none,(.cls ⟨(so "MutableMapping"),[(.ref 478)],[(.ref 730),(.ref 478),(.ref 290),(.ref 231),(.ref 201),(.ref 267),(.type "object")],729,(so "MutableMapping"),false,[],[(.ref 865)],true,none,false⟩),#[(some (.ref 658)),none,(some (sv "MutableMapping" 1157)),(some (sv "MutableMapping" 1165)),(some (.builtin "object.__new__")),(some (.bool false))]⟩
noncomputable def o741 (P:Params):Obj:=⟨(.type "object"),none,.plain,#[]⟩
noncomputable def o742 (P:Params):Obj:=⟨(.type "tuple"),none,(.seq #[.none] 0),#[]⟩
noncomputable def o748 (P:Params):Obj:=co "__init__" 1271 "Cache.__init__" 1272 1273 383 3 0 0 3 743 true 383 744 .none 745 746 747 1277 383 1278
noncomputable def fd749:FuncData:=⟨(so "__init__"),(so "Cache.__init__"),dParams [34,2],dBody [34,2],dScope [34,2],3,[],(.ref 742),.none,.none,(sv "cachetools" 1255),none,(.ref 748),.none,0⟩
noncomputable def o749 (P:Params):Obj:=fo fd749
noncomputable def o762 (P:Params):Obj:=co "__getitem__" 1287 "Cache.__getitem__" 1288 1289 397 2 0 0 3 757 true 383 758 .none 759 760 761 1292 397 1293
noncomputable def fd763:FuncData:=⟨(so "__getitem__"),(so "Cache.__getitem__"),dParams [34,4],dBody [34,4],dScope [34,4],3,[],.none,.none,.none,(sv "cachetools" 1255),none,(.ref 762),.none,0⟩
noncomputable def o763 (P:Params):Obj:=fo fd763
noncomputable def o769 (P:Params):Obj:=co "__setitem__" 1295 "Cache.__setitem__" 1296 1297 403 3 0 0 3 764 true 383 765 .none 766 767 768 1306 403 1307
noncomputable def fd770:FuncData:=⟨(so "__setitem__"),(so "Cache.__setitem__"),dParams [34,5],dBody [34,5],dScope [34,5],3,[],.none,.none,.none,(sv "cachetools" 1255),none,(.ref 769),.none,0⟩
noncomputable def o770 (P:Params):Obj:=fo fd770
noncomputable def o776 (P:Params):Obj:=co "__delitem__" 1309 "Cache.__delitem__" 1310 1311 437 2 0 0 3 771 true 383 772 .none 773 774 775 1316 437 1317
noncomputable def fd777:FuncData:=⟨(so "__delitem__"),(so "Cache.__delitem__"),dParams [34,6],dBody [34,6],dScope [34,6],3,[],.none,.none,.none,(sv "cachetools" 1255),none,(.ref 776),.none,0⟩
noncomputable def o777 (P:Params):Obj:=fo fd777
noncomputable def o783 (P:Params):Obj:=co "__contains__" 1319 "Cache.__contains__" 1320 1321 447 2 0 0 3 778 true 383 779 .none 780 781 782 1324 447 1325
noncomputable def fd784:FuncData:=⟨(so "__contains__"),(so "Cache.__contains__"),dParams [34,7],dBody [34,7],dScope [34,7],3,[],.none,.none,.none,(sv "cachetools" 1255),none,(.ref 783),.none,0⟩
noncomputable def o784 (P:Params):Obj:=fo fd784
noncomputable def o790 (P:Params):Obj:=co "__missing__" 1327 "Cache.__missing__" 1328 1329 450 2 0 0 3 785 true 383 786 .none 787 788 789 1332 450 1333
noncomputable def fd791:FuncData:=⟨(so "__missing__"),(so "Cache.__missing__"),dParams [34,8],dBody [34,8],dScope [34,8],3,[],.none,.none,.none,(sv "cachetools" 1255),none,(.ref 790),.none,0⟩
noncomputable def o791 (P:Params):Obj:=fo fd791
noncomputable def o804 (P:Params):Obj:=co "__len__" 1342 "Cache.__len__" 1343 1344 456 1 0 0 3 799 true 383 800 .none 801 802 803 1346 456 1347
noncomputable def fd805:FuncData:=⟨(so "__len__"),(so "Cache.__len__"),dParams [34,10],dBody [34,10],dScope [34,10],3,[],.none,.none,.none,(sv "cachetools" 1255),none,(.ref 804),.none,0⟩
noncomputable def o805 (P:Params):Obj:=fo fd805
noncomputable def o806 (P:Params):Obj:=⟨(.type "tuple"),none,(.seq #[.none] 0),#[]⟩
noncomputable def o812 (P:Params):Obj:=co "get" 1349 "Cache.get" 1350 1351 459 3 0 0 3 807 true 383 808 .none 809 810 811 1355 459 1356
noncomputable def fd813:FuncData:=⟨(so "get"),(so "Cache.get"),dParams [34,11],dBody [34,11],dScope [34,11],3,[],(.ref 806),.none,.none,(sv "cachetools" 1255),none,(.ref 812),.none,0⟩
noncomputable def o813 (P:Params):Obj:=fo fd813
noncomputable def o814 (P:Params):Obj:=⟨(.type "tuple"),none,(.seq #[(.ref 741)] 0),#[]⟩
noncomputable def o820 (P:Params):Obj:=co "pop" 1358 "Cache.pop" 1359 1360 465 3 0 0 3 815 true 383 816 .none 817 818 819 1365 465 1366
noncomputable def fd821:FuncData:=⟨(so "pop"),(so "Cache.pop"),dParams [34,12],dBody [34,12],dScope [34,12],3,[],(.ref 814),.none,.none,(sv "cachetools" 1255),none,(.ref 820),.none,0⟩
noncomputable def o821 (P:Params):Obj:=fo fd821
noncomputable def o822 (P:Params):Obj:=⟨(.type "tuple"),none,(.seq #[.none] 0),#[]⟩
noncomputable def o828 (P:Params):Obj:=co "setdefault" 1368 "Cache.setdefault" 1369 1370 475 3 0 0 3 823 true 383 824 .none 825 826 827 1375 475 1376
noncomputable def fd829:FuncData:=⟨(so "setdefault"),(so "Cache.setdefault"),dParams [34,13],dBody [34,13],dScope [34,13],3,[],(.ref 822),.none,.none,(sv "cachetools" 1255),none,(.ref 828),.none,0⟩
noncomputable def o829 (P:Params):Obj:=fo fd829
noncomputable def o842 (P:Params):Obj:=co "maxsize" 1385 "Cache.maxsize" 1386 1387 485 1 0 0 3 837 true 383 838 .none 839 840 841 1389 485 1390
noncomputable def fd843:FuncData:=⟨(so "maxsize"),(so "Cache.maxsize"),dParams [34,15],dBody [34,15],dScope [34,15],3,[],.none,.none,.none,(sv "cachetools" 1255),none,(.ref 842),.none,0⟩
noncomputable def o843 (P:Params):Obj:=fo fd843
noncomputable def o844 (P:Params):Obj:=⟨(.type "property"),none,(.fields #[(.ref 843),.none,.none,.none,(sv "maxsize" 1392),(.bool false)]),#[]⟩
noncomputable def o850 (P:Params):Obj:=co "currsize" 1393 "Cache.currsize" 1394 1395 489 1 0 0 3 845 true 383 846 .none 847 848 849 1397 489 1398
noncomputable def fd851:FuncData:=⟨(so "currsize"),(so "Cache.currsize"),dParams [34,16],dBody [34,16],dScope [34,16],3,[],.none,.none,.none,(sv "cachetools" 1255),none,(.ref 850),.none,0⟩
noncomputable def o851 (P:Params):Obj:=fo fd851
noncomputable def o852 (P:Params):Obj:=⟨(.type "property"),none,(.fields #[(.ref 851),.none,.none,.none,(sv "currsize" 1400),(.bool false)]),#[]⟩
noncomputable def o858 (P:Params):Obj:=co "getsizeof" 1401 "Cache.getsizeof" 1402 1403 493 1 0 0 3 853 true 383 854 .none 855 856 857 1405 493 1406
noncomputable def fd859:FuncData:=⟨(so "getsizeof"),(so "Cache.getsizeof"),dParams [34,17],dBody [34,17],dScope [34,17],3,[],.none,.none,.none,(sv "cachetools" 1255),(some 862),(.ref 858),.none,0⟩
noncomputable def o859 (P:Params):Obj:=fo fd859
noncomputable def o861 (P:Params):Obj:=⟨(.type "staticmethod"),(some 860),(.fields #[(.ref 859),(.bool false)]),#[]⟩
noncomputable def o863 (P:Params):Obj:=⟨(.type "tuple"),none,(.seq #[(sv "__currsize" 1420),(sv "__data" 1421),(sv "__maxsize" 1422),(sv "__size" 1423),(sv "getsizeof" 1424)] 0),#[]⟩
noncomputable def o864 (P:Params):Obj:=⟨(.type "dict"),none,(.dict (List.toArray [dE P "__module__" 1264 (sv "cachetools" 1255),dE P "__firstlineno__" 1268 (.int 379 1267),dE P "_Cache__marker" 1269 (.ref 741),dE P "_Cache__size" 1270 .none,dE P "__init__" 1279 (.ref 749),dE P "__repr__" 1286 (.ref 756),dE P "__getitem__" 1294 (.ref 763),dE P "__setitem__" 1308 (.ref 770),dE P "__delitem__" 1318 (.ref 777),dE P "__contains__" 1326 (.ref 784),dE P "__missing__" 1334 (.ref 791),dE P "__iter__" 1341 (.ref 798),dE P "__len__" 1348 (.ref 805),dE P "get" 1357 (.ref 813),dE P "pop" 1367 (.ref 821),dE P "setdefault" 1377 (.ref 829),dE P "clear" 1384 (.ref 836),dE P "maxsize" 1392 (.ref 844),dE P "currsize" 1400 (.ref 852),dE P "getsizeof" 1419 (.ref 861),dE P "__static_attributes__" 1425 (.ref 863),dE P "__dict__" 1427 (.ref 866),dE P "__weakref__" 1429 (.ref 867),dE P "__doc__" 1430 .none]) 4),#[]⟩
noncomputable def o865 (P:Params):Obj:=⟨(.ref 124),none,(.cls ⟨(so "Cache"),[(.ref 730)],[(.ref 865),(.ref 730),(.ref 478),(.ref 290),(.ref 231),(.ref 201),(.ref 267),(.type "object")],864,(so "Cache"),true,[],[(.ref 1013)],false,none,false⟩),#[(some (.ref 734)),none,(some (sv "Cache" 1257)),(some (sv "Cache" 1265)),(some (.builtin "object.__new__")),(some (.bool true))]⟩
noncomputable def o866 (P:Params):Obj:=⟨(.type "getset_descriptor"),none,(.fields #[(sv "__dict__" 1426),(.ref 865),(.builtin "function.__dict__"),(.builtin "function.__dict__#set")]),#[]⟩
noncomputable def o867 (P:Params):Obj:=⟨(.type "getset_descriptor"),none,(.fields #[(sv "__weakref__" 1428),(.ref 865),(.builtin "ExceptionGroup.__weakref__"),.none]),#[]⟩
noncomputable def o873 (P:Params):Obj:=⟨(.type "cell"),none,(.cell (some (.ref 1013))),#[]⟩
noncomputable def o890 (P:Params):Obj:=co "__init__" 1457 "_TimedCache._Timer.__init__" 1458 1459 500 2 0 0 3 885 true 383 886 .none 887 888 889 1462 500 1463
noncomputable def fd891:FuncData:=⟨(so "__init__"),(so "_TimedCache._Timer.__init__"),dParams [35,0,0],dBody [35,0,0],dScope [35,0,0],3,[],.none,.none,.none,(sv "cachetools" 1255),none,(.ref 890),.none,0⟩
noncomputable def o891 (P:Params):Obj:=fo fd891
noncomputable def o897 (P:Params):Obj:=co "__call__" 1465 "_TimedCache._Timer.__call__" 1466 1467 504 1 0 0 3 892 true 383 893 .none 894 895 896 1469 504 1470
noncomputable def fd898:FuncData:=⟨(so "__call__"),(so "_TimedCache._Timer.__call__"),dParams [35,0,1],dBody [35,0,1],dScope [35,0,1],3,[],.none,.none,.none,(sv "cachetools" 1255),none,(.ref 897),.none,0⟩
noncomputable def o898 (P:Params):Obj:=fo fd898
noncomputable def o904 (P:Params):Obj:=co "__enter__" 1472 "_TimedCache._Timer.__enter__" 1473 1474 510 1 0 0 3 899 true 383 900 .none 901 902 903 1477 510 1478
noncomputable def fd905:FuncData:=⟨(so "__enter__"),(so "_TimedCache._Timer.__enter__"),dParams [35,0,2],dBody [35,0,2],dScope [35,0,2],3,[],.none,.none,.none,(sv "cachetools" 1255),none,(.ref 904),.none,0⟩
noncomputable def o905 (P:Params):Obj:=fo fd905
noncomputable def o911 (P:Params):Obj:=co "__exit__" 1480 "_TimedCache._Timer.__exit__" 1481 1482 518 1 0 0 7 906 true 383 907 .none 908 909 910 1485 518 1486
noncomputable def fd912:FuncData:=⟨(so "__exit__"),(so "_TimedCache._Timer.__exit__"),dParams [35,0,3],dBody [35,0,3],dScope [35,0,3],3,[],.none,.none,.none,(sv "cachetools" 1255),none,(.ref 911),.none,0⟩
noncomputable def o912 (P:Params):Obj:=fo fd912
noncomputable def o925 (P:Params):Obj:=co "__getattr__" 1495 "_TimedCache._Timer.__getattr__" 1496 1497 524 2 0 0 3 920 true 383 921 .none 922 923 924 1500 524 1501
noncomputable def fd926:FuncData:=⟨(so "__getattr__"),(so "_TimedCache._Timer.__getattr__"),dParams [35,0,5],dBody [35,0,5],dScope [35,0,5],3,[],.none,.none,.none,(sv "cachetools" 1255),none,(.ref 925),.none,0⟩
noncomputable def o926 (P:Params):Obj:=fo fd926
noncomputable def o927 (P:Params):Obj:=⟨(.type "tuple"),none,(.seq #[(sv "__nesting" 1503),(sv "__time" 1504),(sv "__timer" 1505)] 0),#[]⟩
noncomputable def o928 (P:Params):Obj:=⟨(.type "dict"),none,(.dict (List.toArray [dE P "__module__" 1452 (sv "cachetools" 1255),dE P "__firstlineno__" 1456 (.int 498 1455),dE P "__init__" 1464 (.ref 891),dE P "__call__" 1471 (.ref 898),dE P "__enter__" 1479 (.ref 905),dE P "__exit__" 1487 (.ref 912),dE P "__reduce__" 1494 (.ref 919),dE P "__getattr__" 1502 (.ref 926),dE P "__static_attributes__" 1506 (.ref 927),dE P "__dict__" 1508 (.ref 930),dE P "__weakref__" 1510 (.ref 931),dE P "__doc__" 1511 .none]) 4),#[]⟩
noncomputable def o929 (P:Params):Obj:=⟨(.type "type"),none,(.cls ⟨(so "_Timer"),[(.type "object")],[(.ref 929),(.type "object")],928,(so "_TimedCache._Timer"),true,[],[],false,none,false⟩),#[none,none,(some (sv "_Timer" 1445)),(some (sv "_TimedCache._Timer" 1453)),(some (.builtin "object.__new__")),(some (.bool true))]⟩
noncomputable def o930 (P:Params):Obj:=⟨(.type "getset_descriptor"),none,(.fields #[(sv "__dict__" 1507),(.ref 929),(.builtin "function.__dict__"),(.builtin "function.__dict__#set")]),#[]⟩
noncomputable def o931 (P:Params):Obj:=⟨(.type "getset_descriptor"),none,(.fields #[(sv "__weakref__" 1509),(.ref 929),(.builtin "ExceptionGroup.__weakref__"),.none]),#[]⟩
noncomputable def o934 (P:Params):Obj:=⟨(.type "tuple"),none,(.seq #[.none] 0),#[]⟩
noncomputable def o940 (P:Params):Obj:=co "__init__" 1514 "_TimedCache.__init__" 1515 1516 527 4 0 0 3 935 true 383 936 .none 937 938 939 1521 527 1522
noncomputable def fd941:FuncData:=⟨(so "__init__"),(so "_TimedCache.__init__"),dParams [35,1],dBody [35,1],dScope [35,1],3,[],(.ref 934),.none,.none,(sv "cachetools" 1255),none,(.ref 940),.none,0⟩
noncomputable def o941 (P:Params):Obj:=fo fd941
noncomputable def o950 (P:Params):Obj:=⟨(.type "tuple"),none,(.seq #[(.ref 805)] 0),#[]⟩
noncomputable def o956 (P:Params):Obj:=co "__len__" 1535 "_TimedCache.__len__" 1536 1537 536 2 0 0 3 951 true 383 952 .none 953 954 955 1541 536 1542
noncomputable def fd957:FuncData:=⟨(so "__len__"),(so "_TimedCache.__len__"),dParams [35,3],dBody [35,3],dScope [35,3],3,[],(.ref 950),.none,.none,(sv "cachetools" 1255),none,(.ref 956),.none,0⟩
noncomputable def o957 (P:Params):Obj:=fo fd957
noncomputable def o958 (P:Params):Obj:=⟨(.type "tuple"),none,(.seq #[(.ref 873)] 0),#[]⟩
noncomputable def o964 (P:Params):Obj:=co "currsize" 1544 "_TimedCache.currsize" 1545 1546 541 1 0 0 3 959 true 383 960 .none 961 962 963 1550 541 1551
noncomputable def fd965:FuncData:=⟨(so "currsize"),(so "_TimedCache.currsize"),dParams [35,4],dBody [35,4],dScope [35,4],3,[((so "__class__"),873)],.none,.none,.none,(sv "cachetools" 1255),none,(.ref 964),(.ref 958),0⟩
noncomputable def o965 (P:Params):Obj:=fo fd965
noncomputable def o966 (P:Params):Obj:=⟨(.type "property"),none,(.fields #[(.ref 965),.none,.none,.none,(sv "currsize" 1553),(.bool false)]),#[]⟩
noncomputable def o972 (P:Params):Obj:=co "timer" 1554 "_TimedCache.timer" 1555 1556 547 1 0 0 3 967 true 383 968 .none 969 970 971 1558 547 1559
noncomputable def fd973:FuncData:=⟨(so "timer"),(so "_TimedCache.timer"),dParams [35,5],dBody [35,5],dScope [35,5],3,[],.none,.none,.none,(sv "cachetools" 1255),none,(.ref 972),.none,0⟩
noncomputable def o973 (P:Params):Obj:=fo fd973
noncomputable def o974 (P:Params):Obj:=⟨(.type "property"),none,(.fields #[(.ref 973),.none,.none,.none,(sv "timer" 1561),(.bool false)]),#[]⟩
noncomputable def o980 (P:Params):Obj:=co "get" 1562 "_TimedCache.get" 1563 1564 551 1 0 0 15 975 true 383 976 .none 977 978 979 1568 551 1569
noncomputable def fd981:FuncData:=⟨(so "get"),(so "_TimedCache.get"),dParams [35,6],dBody [35,6],dScope [35,6],3,[],.none,.none,.none,(sv "cachetools" 1255),none,(.ref 980),.none,0⟩
noncomputable def o981 (P:Params):Obj:=fo fd981
noncomputable def o987 (P:Params):Obj:=co "pop" 1571 "_TimedCache.pop" 1572 1573 555 1 0 0 15 982 true 383 983 .none 984 985 986 1577 555 1578
noncomputable def fd988:FuncData:=⟨(so "pop"),(so "_TimedCache.pop"),dParams [35,7],dBody [35,7],dScope [35,7],3,[],.none,.none,.none,(sv "cachetools" 1255),none,(.ref 987),.none,0⟩
noncomputable def o988 (P:Params):Obj:=fo fd988
noncomputable def o994 (P:Params):Obj:=co "setdefault" 1580 "_TimedCache.setdefault" 1581 1582 559 1 0 0 15 989 true 383 990 .none 991 992 993 1586 559 1587
noncomputable def fd995:FuncData:=⟨(so "setdefault"),(so "_TimedCache.setdefault"),dParams [35,8],dBody [35,8],dScope [35,8],3,[],.none,.none,.none,(sv "cachetools" 1255),none,(.ref 994),.none,0⟩
noncomputable def o995 (P:Params):Obj:=fo fd995
noncomputable def o1003 (P:Params):Obj:=⟨(.type "tuple"),none,(.seq #[.none] 0),#[]⟩
noncomputable def o1009 (P:Params):Obj:=co "expire" 1596 "_TimedCache.expire" 1597 1598 566 2 0 0 3 1004 true 383 1005 .none 1006 1007 1008 1601 566 1602
noncomputable def fd1010:FuncData:=⟨(so "expire"),(so "_TimedCache.expire"),dParams [35,10],dBody [35,10],dScope [35,10],3,[],(.ref 1003),.none,.none,(sv "cachetools" 1255),none,(.ref 1009),.none,0⟩
noncomputable def o1010 (P:Params):Obj:=fo fd1010
noncomputable def o1011 (P:Params):Obj:=⟨(.type "tuple"),none,(.seq #[(sv "__timer" 1604)] 0),#[]⟩
noncomputable def o1012 (P:Params):Obj:=⟨(.type "dict"),none,(.dict (List.toArray [dE P "__module__" 1440 (sv "cachetools" 1255),dE P "__firstlineno__" 1444 (.int 496 1443),dE P "_Timer" 1513 (.ref 929),dE P "__init__" 1523 (.ref 941),dE P "__repr__" 1533 (.ref 949),dE P "__len__" 1543 (.ref 957),dE P "currsize" 1553 (.ref 966),dE P "timer" 1561 (.ref 974),dE P "get" 1570 (.ref 981),dE P "pop" 1579 (.ref 988),dE P "setdefault" 1588 (.ref 995),dE P "clear" 1595 (.ref 1002),dE P "expire" 1603 (.ref 1010),dE P "__static_attributes__" 1605 (.ref 1011),dE P "__doc__" 1607 .none]) 3),#[]⟩
noncomputable def o1013 (P:Params):Obj:=⟨(.ref 124),none,(.cls ⟨(so "_TimedCache"),[(.ref 865)],[(.ref 1013),(.ref 865),(.ref 730),(.ref 478),(.ref 290),(.ref 231),(.ref 201),(.ref 267),(.type "object")],1012,(so "_TimedCache"),true,[],[(.ref 1155),(.ref 1373)],false,none,false⟩),#[(some (.ref 870)),none,(some (sv "_TimedCache" 1433)),(some (sv "_TimedCache" 1441)),(some (.builtin "object.__new__")),(some (.bool true))]⟩
noncomputable def o1021 (P:Params):Obj:=co "monotonic" 1612 "monotonic" 1613 1614 569 0 0 0 15 1016 true 383 1017 .none 1018 1019 1020 1617 569 1618
noncomputable def fd1022:FuncData:=⟨(so "monotonic"),(so "monotonic"),dParams [37],dBody [37],dScope [37],3,[],.none,.none,.none,(sv "time" 1610),none,(.ref 1021),.none,0⟩
noncomputable def o1022 (P:Params):Obj:=fo fd1022
noncomputable def o1037 (P:Params):Obj:=⟨(.type "tuple"),none,(.seq #[(sv "expires" 1646),(sv "key" 1647),(sv "next" 1648),(sv "prev" 1649)] 0),#[]⟩
noncomputable def o1038 (P:Params):Obj:=⟨(.type "tuple"),none,(.seq #[.none,.none] 0),#[]⟩
noncomputable def o1044 (P:Params):Obj:=co "__init__" 1651 "TTLCache._Link.__init__" 1652 1653 577 3 0 0 3 1039 true 383 1040 .none 1041 1042 1043 1657 577 1658
noncomputable def fd1045:FuncData:=⟨(so "__init__"),(so "TTLCache._Link.__init__"),dParams [39,0,1],dBody [39,0,1],dScope [39,0,1],3,[],(.ref 1038),.none,.none,(sv "cachetools" 1620),none,(.ref 1044),.none,0⟩
noncomputable def o1045 (P:Params):Obj:=fo fd1045
noncomputable def o1058 (P:Params):Obj:=co "unlink" 1667 "TTLCache._Link.unlink" 1668 1669 584 1 0 0 3 1053 true 383 1054 .none 1055 1056 1057 1673 584 1674
noncomputable def fd1059:FuncData:=⟨(so "unlink"),(so "TTLCache._Link.unlink"),dParams [39,0,3],dBody [39,0,3],dScope [39,0,3],3,[],.none,.none,.none,(sv "cachetools" 1620),none,(.ref 1058),.none,0⟩
noncomputable def o1059 (P:Params):Obj:=fo fd1059
noncomputable def o1060 (P:Params):Obj:=⟨(.type "tuple"),none,(.seq #[(sv "expires" 1676),(sv "key" 1677)] 0),#[]⟩
noncomputable def o1062 (P:Params):Obj:=⟨(.type "dict"),none,(.dict (List.toArray [dE P "__module__" 1641 (sv "cachetools" 1620),dE P "__firstlineno__" 1645 (.int 574 1644),dE P "__slots__" 1650 (.ref 1037),dE P "__init__" 1659 (.ref 1045),dE P "__reduce__" 1666 (.ref 1052),dE P "unlink" 1675 (.ref 1059),dE P "__static_attributes__" 1678 (.ref 1060),dE P "expires" 1680 (.ref 1064),dE P "key" 1682 (.ref 1065),dE P "next" 1684 (.ref 1066),dE P "prev" 1686 (.ref 1067),dE P "__doc__" 1687 .none]) 6),#[]⟩
noncomputable def o1063 (P:Params):Obj:=⟨(.type "type"),none,(.cls ⟨(so "_Link"),[(.type "object")],[(.ref 1063),(.type "object")],1062,(so "TTLCache._Link"),false,[(so "expires"),(so "key"),(so "next"),(so "prev")],[],false,none,false⟩),#[none,none,(some (sv "_Link" 1634)),(some (sv "TTLCache._Link" 1642)),(some (.builtin "object.__new__")),(some (.bool false))]⟩
noncomputable def o1064 (P:Params):Obj:=⟨(.type "member_descriptor"),none,(.fields #[(sv "expires" 1679),(.ref 1063),(.builtin "proto.slot"),(.builtin "proto.slot#set"),(.int 3 0)]),#[]⟩
noncomputable def o1065 (P:Params):Obj:=⟨(.type "member_descriptor"),none,(.fields #[(sv "key" 1681),(.ref 1063),(.builtin "proto.slot"),(.builtin "proto.slot#set"),(.int 2 0)]),#[]⟩
noncomputable def o1066 (P:Params):Obj:=⟨(.type "member_descriptor"),none,(.fields #[(sv "next" 1683),(.ref 1063),(.builtin "proto.slot"),(.builtin "proto.slot#set"),(.int 1 0)]),#[]⟩
noncomputable def o1067 (P:Params):Obj:=⟨(.type "member_descriptor"),none,(.fields #[(sv "prev" 1685),(.ref 1063),(.builtin "proto.slot"),(.builtin "proto.slot#set"),(.int 0 0)]),#[]⟩
noncomputable def o1070 (P:Params):Obj:=⟨(.type "tuple"),none,(.seq #[(.ref 1022),.none] 0),#[]⟩
noncomputable def o1076 (P:Params):Obj:=co "__init__" 1690 "TTLCache.__init__" 1691 1692 590 5 0 0 3 1071 true 383 1072 .none 1073 1074 1075 1699 590 1700
noncomputable def fd1077:FuncData:=⟨(so "__init__"),(so "TTLCache.__init__"),dParams [39,1],dBody [39,1],dScope [39,1],3,[],(.ref 1070),.none,.none,(sv "cachetools" 1620),none,(.ref 1076),.none,0⟩
noncomputable def o1077 (P:Params):Obj:=fo fd1077
noncomputable def o1083 (P:Params):Obj:=co "__contains__" 1702 "TTLCache.__contains__" 1703 1704 597 2 0 0 3 1078 true 383 1079 .none 1080 1081 1082 1708 597 1709
noncomputable def fd1084:FuncData:=⟨(so "__contains__"),(so "TTLCache.__contains__"),dParams [39,2],dBody [39,2],dScope [39,2],3,[],.none,.none,.none,(sv "cachetools" 1620),none,(.ref 1083),.none,0⟩
noncomputable def o1084 (P:Params):Obj:=fo fd1084
noncomputable def o1085 (P:Params):Obj:=⟨(.type "tuple"),none,(.seq #[(.ref 763)] 0),#[]⟩
noncomputable def o1091 (P:Params):Obj:=co "__getitem__" 1712 "TTLCache.__getitem__" 1713 1714 605 3 0 0 3 1086 true 383 1087 .none 1088 1089 1090 1720 605 1721
noncomputable def fd1092:FuncData:=⟨(so "__getitem__"),(so "TTLCache.__getitem__"),dParams [39,3],dBody [39,3],dScope [39,3],3,[],(.ref 1085),.none,.none,(sv "cachetools" 1620),none,(.ref 1091),.none,0⟩
noncomputable def o1092 (P:Params):Obj:=fo fd1092
noncomputable def o1093 (P:Params):Obj:=⟨(.type "tuple"),none,(.seq #[(.ref 770)] 0),#[]⟩
noncomputable def o1099 (P:Params):Obj:=co "__setitem__" 1724 "TTLCache.__setitem__" 1725 1726 617 4 0 0 3 1094 true 383 1095 .none 1096 1097 1098 1737 617 1738
noncomputable def fd1100:FuncData:=⟨(so "__setitem__"),(so "TTLCache.__setitem__"),dParams [39,4],dBody [39,4],dScope [39,4],3,[],(.ref 1093),.none,.none,(sv "cachetools" 1620),none,(.ref 1099),.none,0⟩
noncomputable def o1100 (P:Params):Obj:=fo fd1100
noncomputable def o1101 (P:Params):Obj:=⟨(.type "tuple"),none,(.seq #[(.ref 777)] 0),#[]⟩
noncomputable def o1107 (P:Params):Obj:=co "__delitem__" 1741 "TTLCache.__delitem__" 1742 1743 634 3 0 0 3 1102 true 383 1103 .none 1104 1105 1106 1748 634 1749
noncomputable def fd1108:FuncData:=⟨(so "__delitem__"),(so "TTLCache.__delitem__"),dParams [39,5],dBody [39,5],dScope [39,5],3,[],(.ref 1101),.none,.none,(sv "cachetools" 1620),none,(.ref 1107),.none,0⟩
noncomputable def o1108 (P:Params):Obj:=fo fd1108
noncomputable def o1128 (P:Params):Obj:=co "ttl" 1772 "TTLCache.ttl" 1773 1774 660 1 0 0 3 1123 true 383 1124 .none 1125 1126 1127 1776 660 1777
noncomputable def fd1129:FuncData:=⟨(so "ttl"),(so "TTLCache.ttl"),dParams [39,8],dBody [39,8],dScope [39,8],3,[],.none,.none,.none,(sv "cachetools" 1620),none,(.ref 1128),.none,0⟩
noncomputable def o1129 (P:Params):Obj:=fo fd1129
noncomputable def o1130 (P:Params):Obj:=⟨(.type "property"),none,(.fields #[(.ref 1129),.none,.none,.none,(sv "ttl" 1779),(.bool false)]),#[]⟩
noncomputable def o1131 (P:Params):Obj:=⟨(.type "tuple"),none,(.seq #[.none] 0),#[]⟩
noncomputable def o1137 (P:Params):Obj:=co "expire" 1780 "TTLCache.expire" 1781 1782 664 2 0 0 3 1132 true 383 1133 .none 1134 1135 1136 1792 664 1793
noncomputable def fd1138:FuncData:=⟨(so "expire"),(so "TTLCache.expire"),dParams [39,9],dBody [39,9],dScope [39,9],3,[],(.ref 1131),.none,.none,(sv "cachetools" 1620),none,(.ref 1137),.none,0⟩
noncomputable def o1138 (P:Params):Obj:=fo fd1138
noncomputable def o1144 (P:Params):Obj:=co "popitem" 1795 "TTLCache.popitem" 1796 1797 684 1 0 0 3 1139 true 383 1140 .none 1141 1142 1143 1802 684 1803
noncomputable def fd1145:FuncData:=⟨(so "popitem"),(so "TTLCache.popitem"),dParams [39,10],dBody [39,10],dScope [39,10],3,[],.none,.none,.none,(sv "cachetools" 1620),none,(.ref 1144),.none,0⟩
noncomputable def o1145 (P:Params):Obj:=fo fd1145
noncomputable def o1153 (P:Params):Obj:=⟨(.type "tuple"),none,(.seq #[(sv "__links" 1812),(sv "__root" 1813),(sv "__ttl" 1814)] 0),#[]⟩
noncomputable def o1154 (P:Params):Obj:=⟨(.type "dict"),none,(.dict (List.toArray [dE P "__module__" 1629 (sv "cachetools" 1620),dE P "__firstlineno__" 1633 (.int 572 1632),dE P "_Link" 1689 (.ref 1063),dE P "__init__" 1701 (.ref 1077),dE P "__contains__" 1710 (.ref 1084),dE P "__getitem__" 1722 (.ref 1092),dE P "__setitem__" 1739 (.ref 1100),dE P "__delitem__" 1750 (.ref 1108),dE P "__iter__" 1760 (.ref 1115),dE P "__setstate__" 1771 (.ref 1122),dE P "ttl" 1779 (.ref 1130),dE P "expire" 1794 (.ref 1138),dE P "popitem" 1804 (.ref 1145),dE P "clear" 1811 (.ref 1152),dE P "__static_attributes__" 1815 (.ref 1153),dE P "__doc__" 1816 .none]) 2),#[]⟩
noncomputable def o1155 (P:Params):Obj:=⟨(.ref 124),none,(.cls ⟨(so "TTLCache"),[(.ref 1013)],[(.ref 1155),(.ref 1013),(.ref 865),(.ref 730),(.ref 478),(.ref 290),(.ref 231),(.ref 201),(.ref 267),(.type "object")],1154,(so "TTLCache"),true,[],[],false,none,false⟩),#[(some (.ref 1023)),none,(some (sv "TTLCache" 1622)),(some (sv "TTLCache" 1630)),(some (.builtin "object.__new__")),(some (.bool true))]⟩
noncomputable def o1263 (P:Params):Obj:=⟨(.type "tuple"),none,(.seq #[(sv "expires" 1968),(sv "key" 1969),(sv "removed" 1970)] 0),#[]⟩
noncomputable def o1264 (P:Params):Obj:=⟨(.type "tuple"),none,(.seq #[.none,.none] 0),#[]⟩
noncomputable def o1270 (P:Params):Obj:=co "__init__" 1972 "TLRUCache._Item.__init__" 1973 1974 797 3 0 0 3 1265 true 383 1266 .none 1267 1268 1269 1978 797 1979
noncomputable def fd1271:FuncData:=⟨(so "__init__"),(so "TLRUCache._Item.__init__"),dParams [55,1,1],dBody [55,1,1],dScope [55,1,1],3,[],(.ref 1264),.none,.none,(sv "cachetools" 1940),none,(.ref 1270),.none,0⟩
noncomputable def o1271 (P:Params):Obj:=fo fd1271
noncomputable def o1277 (P:Params):Obj:=co "__lt__" 1981 "TLRUCache._Item.__lt__" 1982 1983 802 2 0 0 3 1272 true 383 1273 .none 1274 1275 1276 1986 802 1987
noncomputable def fd1278:FuncData:=⟨(so "__lt__"),(so "TLRUCache._Item.__lt__"),dParams [55,1,2],dBody [55,1,2],dScope [55,1,2],3,[],.none,.none,.none,(sv "cachetools" 1940),none,(.ref 1277),.none,0⟩
noncomputable def o1278 (P:Params):Obj:=fo fd1278
noncomputable def o1279 (P:Params):Obj:=⟨(.type "tuple"),none,(.seq #[(sv "expires" 1989),(sv "key" 1990),(sv "removed" 1991)] 0),#[]⟩
noncomputable def o1281 (P:Params):Obj:=⟨(.type "dict"),none,(.dict (List.toArray [dE P "__module__" 1963 (sv "cachetools" 1940),dE P "__firstlineno__" 1967 (.int 793 1966),dE P "__slots__" 1971 (.ref 1263),dE P "__init__" 1980 (.ref 1271),dE P "__lt__" 1988 (.ref 1278),dE P "__static_attributes__" 1992 (.ref 1279),dE P "expires" 1994 (.ref 1283),dE P "key" 1996 (.ref 1284),dE P "removed" 1998 (.ref 1285),dE P "__doc__" 1999 .none,dE P "__gt__" 2015 (.ref 1164),dE P "__le__" 2017 (.ref 1171),dE P "__ge__" 2019 (.ref 1178)]) 8),#[]⟩
noncomputable def o1282 (P:Params):Obj:=⟨(.type "type"),none,(.cls ⟨(so "_Item"),[(.type "object")],[(.ref 1282),(.type "object")],1281,(so "TLRUCache._Item"),false,[(so "expires"),(so "key"),(so "removed")],[],false,none,false⟩),#[none,none,(some (sv "_Item" 1956)),(some (sv "TLRUCache._Item" 1964)),(some (.builtin "object.__new__")),(some (.bool false))]⟩
noncomputable def o1283 (P:Params):Obj:=⟨(.type "member_descriptor"),none,(.fields #[(sv "expires" 1993),(.ref 1282),(.builtin "proto.slot"),(.builtin "proto.slot#set"),(.int 2 0)]),#[]⟩
noncomputable def o1284 (P:Params):Obj:=⟨(.type "member_descriptor"),none,(.fields #[(sv "key" 1995),(.ref 1282),(.builtin "proto.slot"),(.builtin "proto.slot#set"),(.int 1 0)]),#[]⟩
noncomputable def o1285 (P:Params):Obj:=⟨(.type "member_descriptor"),none,(.fields #[(sv "removed" 1997),(.ref 1282),(.builtin "proto.slot"),(.builtin "proto.slot#set"),(.int 0 0)]),#[]⟩
noncomputable def o1289 (P:Params):Obj:=⟨(.type "tuple"),none,(.seq #[(.ref 1022),.none] 0),#[]⟩
noncomputable def o1295 (P:Params):Obj:=co "__init__" 2021 "TLRUCache.__init__" 2022 2023 805 5 0 0 3 1290 true 383 1291 .none 1292 1293 1294 2029 805 2030
noncomputable def fd1296:FuncData:=⟨(so "__init__"),(so "TLRUCache.__init__"),dParams [55,2],dBody [55,2],dScope [55,2],3,[],(.ref 1289),.none,.none,(sv "cachetools" 1940),none,(.ref 1295),.none,0⟩
noncomputable def o1296 (P:Params):Obj:=fo fd1296
noncomputable def o1302 (P:Params):Obj:=co "__contains__" 2032 "TLRUCache.__contains__" 2033 2034 811 2 0 0 3 1297 true 383 1298 .none 1299 1300 1301 2038 811 2039
noncomputable def fd1303:FuncData:=⟨(so "__contains__"),(so "TLRUCache.__contains__"),dParams [55,3],dBody [55,3],dScope [55,3],3,[],.none,.none,.none,(sv "cachetools" 1940),none,(.ref 1302),.none,0⟩
noncomputable def o1303 (P:Params):Obj:=fo fd1303
noncomputable def o1304 (P:Params):Obj:=⟨(.type "tuple"),none,(.seq #[(.ref 763)] 0),#[]⟩
noncomputable def o1310 (P:Params):Obj:=co "__getitem__" 2042 "TLRUCache.__getitem__" 2043 2044 819 3 0 0 3 1305 true 383 1306 .none 1307 1308 1309 2050 819 2051
noncomputable def fd1311:FuncData:=⟨(so "__getitem__"),(so "TLRUCache.__getitem__"),dParams [55,4],dBody [55,4],dScope [55,4],3,[],(.ref 1304),.none,.none,(sv "cachetools" 1940),none,(.ref 1310),.none,0⟩
noncomputable def o1311 (P:Params):Obj:=fo fd1311
noncomputable def o1312 (P:Params):Obj:=⟨(.type "tuple"),none,(.seq #[(.ref 770)] 0),#[]⟩
noncomputable def o1318 (P:Params):Obj:=co "__setitem__" 2054 "TLRUCache.__setitem__" 2055 2056 831 4 0 0 3 1313 true 383 1314 .none 1315 1316 1317 2065 831 2066
noncomputable def fd1319:FuncData:=⟨(so "__setitem__"),(so "TLRUCache.__setitem__"),dParams [55,5],dBody [55,5],dScope [55,5],3,[],(.ref 1312),.none,.none,(sv "cachetools" 1940),none,(.ref 1318),.none,0⟩
noncomputable def o1319 (P:Params):Obj:=fo fd1319
noncomputable def o1320 (P:Params):Obj:=⟨(.type "tuple"),none,(.seq #[(.ref 777)] 0),#[]⟩
noncomputable def o1326 (P:Params):Obj:=co "__delitem__" 2069 "TLRUCache.__delitem__" 2070 2071 846 3 0 0 3 1321 true 383 1322 .none 1323 1324 1325 2077 846 2078
noncomputable def fd1327:FuncData:=⟨(so "__delitem__"),(so "TLRUCache.__delitem__"),dParams [55,6],dBody [55,6],dScope [55,6],3,[],(.ref 1320),.none,.none,(sv "cachetools" 1940),none,(.ref 1326),.none,0⟩
noncomputable def o1327 (P:Params):Obj:=fo fd1327
noncomputable def o1340 (P:Params):Obj:=co "ttu" 2089 "TLRUCache.ttu" 2090 2091 860 1 0 0 3 1335 true 383 1336 .none 1337 1338 1339 2093 860 2094
noncomputable def fd1341:FuncData:=⟨(so "ttu"),(so "TLRUCache.ttu"),dParams [55,8],dBody [55,8],dScope [55,8],3,[],.none,.none,.none,(sv "cachetools" 1940),none,(.ref 1340),.none,0⟩
noncomputable def o1341 (P:Params):Obj:=fo fd1341
noncomputable def o1342 (P:Params):Obj:=⟨(.type "property"),none,(.fields #[(.ref 1341),.none,.none,.none,(sv "ttu" 2096),(.bool false)]),#[]⟩
noncomputable def o1343 (P:Params):Obj:=⟨(.type "tuple"),none,(.seq #[.none] 0),#[]⟩
noncomputable def o1347 (P:Params):Obj:=⟨(.type "code"),none,(.fields #[(sv "expire" 2097),(sv "TLRUCache.expire" 2098),(sv "/claim/cut.py" 2099),(.int 864 0),(.int 2 0),(.int 0 0),(.int 0 0),(.int 3 0),(.ref 1344),(.bool true),(.int 383 0),(.ref 1345),.none,.none,.none,(.ref 1346),(.int 2100 0),(.int 864 0),(sv "/claim/cut.py" 2101)]),#[]⟩
noncomputable def fd1348:FuncData:=⟨(so "expire"),(so "TLRUCache.expire"),dParams [55,9],dBody [55,9],dScope [55,9],3,[],(.ref 1343),.none,.none,(sv "cachetools" 1940),none,(.ref 1347),.none,0⟩
noncomputable def o1348 (P:Params):Obj:=fo fd1348
noncomputable def o1354 (P:Params):Obj:=co "popitem" 2103 "TLRUCache.popitem" 2104 2105 885 1 0 0 3 1349 true 383 1350 .none 1351 1352 1353 2110 885 2111
noncomputable def fd1355:FuncData:=⟨(so "popitem"),(so "TLRUCache.popitem"),dParams [55,10],dBody [55,10],dScope [55,10],3,[],.none,.none,.none,(sv "cachetools" 1940),none,(.ref 1354),.none,0⟩
noncomputable def o1355 (P:Params):Obj:=fo fd1355
noncomputable def o1363 (P:Params):Obj:=⟨(.type "tuple"),none,(.seq #[(.ref 777)] 0),#[]⟩
noncomputable def o1369 (P:Params):Obj:=co "__delitem" 2121 "TLRUCache.__delitem" 2122 2123 900 3 0 0 3 1364 true 383 1365 .none 1366 1367 1368 2127 900 2128
noncomputable def fd1370:FuncData:=⟨(so "__delitem"),(so "TLRUCache.__delitem"),dParams [55,12],dBody [55,12],dScope [55,12],3,[],(.ref 1363),.none,.none,(sv "cachetools" 1940),none,(.ref 1369),.none,0⟩
noncomputable def o1370 (P:Params):Obj:=fo fd1370
noncomputable def o1371 (P:Params):Obj:=⟨(.type "tuple"),none,(.seq #[(sv "__items" 2130),(sv "__order" 2131),(sv "__ttu" 2132)] 0),#[]⟩
noncomputable def o1372 (P:Params):Obj:=⟨(.type "dict"),none,(.dict (List.toArray [dE P "__module__" 1949 (sv "cachetools" 1940),dE P "__firstlineno__" 1953 (.int 790 1952),dE P "_TLRUCache__HEAP_CLEANUP_FACTOR" 1955 (.int 2 1954),dE P "_Item" 2020 (.ref 1282),dE P "__init__" 2031 (.ref 1296),dE P "__contains__" 2040 (.ref 1303),dE P "__getitem__" 2052 (.ref 1311),dE P "__setitem__" 2067 (.ref 1319),dE P "__delitem__" 2079 (.ref 1327),dE P "__iter__" 2088 (.ref 1334),dE P "ttu" 2096 (.ref 1342),dE P "expire" 2102 (.ref 1348),dE P "popitem" 2112 (.ref 1355),dE P "clear" 2119 (.ref 1362),dE P "_TLRUCache__delitem" 2129 (.ref 1370),dE P "__static_attributes__" 2133 (.ref 1371),dE P "__doc__" 2134 .none]) 2),#[]⟩
noncomputable def o1373 (P:Params):Obj:=⟨(.ref 124),none,(.cls ⟨(so "TLRUCache"),[(.ref 1013)],[(.ref 1373),(.ref 1013),(.ref 865),(.ref 730),(.ref 478),(.ref 290),(.ref 231),(.ref 201),(.ref 267),(.type "object")],1372,(so "TLRUCache"),true,[],[],false,none,false⟩),#[(some (.ref 1249)),none,(some (sv "TLRUCache" 1942)),(some (sv "TLRUCache" 1950)),(some (.builtin "object.__new__")),(some (.bool true))]⟩
noncomputable def o1379 (P:Params):Obj:=⟨(.type "code"),none,(.fields #[(sv "_law_row" 2139),(sv "_law_row" 2140),(sv "/claim/cut.py" 2141),(.int 908 0),(.int 2 0),(.int 0 0),(.int 0 0),(.int 3 0),(.ref 1376),(.bool true),(.int 383 0),(.ref 1377),.none,.none,.none,(.ref 1378),(.int 2142 0),(.int 908 0),(sv "/claim/cut.py" 2143)]),#[]⟩
noncomputable def fd1380:FuncData:=⟨(so "_law_row"),(so "_law_row"),dParams [57],dBody [57],dScope [57],3,[],.none,.none,.none,(sv "law_ki0008_02" 2137),none,(.ref 1379),.none,0⟩
noncomputable def o1380 (P:Params):Obj:=fo fd1380
noncomputable def o1384 (P:Params):Obj:=⟨(.type "code"),none,(.fields #[(sv "_law_without" 2145),(sv "_law_without" 2146),(sv "/claim/cut.py" 2147),(.int 910 0),(.int 2 0),(.int 0 0),(.int 0 0),(.int 3 0),(.ref 1381),(.bool true),(.int 383 0),(.ref 1382),.none,.none,.none,(.ref 1383),(.int 2148 0),(.int 910 0),(sv "/claim/cut.py" 2149)]),#[]⟩
noncomputable def fd1385:FuncData:=⟨(so "_law_without"),(so "_law_without"),dParams [58],dBody [58],dScope [58],3,[],.none,.none,.none,(sv "law_ki0008_02" 2137),none,(.ref 1384),.none,0⟩
noncomputable def o1385 (P:Params):Obj:=fo fd1385
noncomputable def o1389 (P:Params):Obj:=⟨(.type "code"),none,(.fields #[(sv "_law_deed" 2151),(sv "_law_deed" 2152),(sv "/claim/cut.py" 2153),(.int 912 0),(.int 4 0),(.int 0 0),(.int 0 0),(.int 3 0),(.ref 1386),(.bool true),(.int 383 0),(.ref 1387),.none,.none,.none,(.ref 1388),(.int 2154 0),(.int 912 0),(sv "/claim/cut.py" 2155)]),#[]⟩
noncomputable def fd1390:FuncData:=⟨(so "_law_deed"),(so "_law_deed"),dParams [59],dBody [59],dScope [59],3,[],.none,.none,.none,(sv "law_ki0008_02" 2137),none,(.ref 1389),.none,0⟩
noncomputable def o1390 (P:Params):Obj:=fo fd1390
noncomputable def o1396 (P:Params):Obj:=co "_law_put" 2157 "_law_put" 2158 2159 930 6 0 0 3 1391 true 383 1392 .none 1393 1394 1395 2166 930 2167
noncomputable def fd1397:FuncData:=⟨(so "_law_put"),(so "_law_put"),dParams [60],dBody [60],dScope [60],3,[],.none,.none,.none,(sv "law_ki0008_02" 2137),none,(.ref 1396),.none,0⟩
noncomputable def o1397 (P:Params):Obj:=fo fd1397
noncomputable def o1401 (P:Params):Obj:=⟨(.type "code"),none,(.fields #[(sv "_law_due" 2169),(sv "_law_due" 2170),(sv "/claim/cut.py" 2171),(.int 938 0),(.int 7 0),(.int 0 0),(.int 0 0),(.int 3 0),(.ref 1398),(.bool true),(.int 383 0),(.ref 1399),.none,.none,.none,(.ref 1400),(.int 2172 0),(.int 938 0),(sv "/claim/cut.py" 2173)]),#[]⟩
noncomputable def fd1402:FuncData:=⟨(so "_law_due"),(so "_law_due"),dParams [61],dBody [61],dScope [61],3,[],.none,.none,.none,(sv "law_ki0008_02" 2137),none,(.ref 1401),.none,0⟩
noncomputable def o1402 (P:Params):Obj:=fo fd1402
noncomputable def o1406 (P:Params):Obj:=⟨(.type "code"),none,(.fields #[(sv "law" 2175),(sv "law" 2176),(sv "/claim/cut.py" 2177),(.int 957 0),(.int 1 0),(.int 0 0),(.int 0 0),(.int 3 0),(.ref 1403),(.bool true),(.int 383 0),(.ref 1404),.none,.none,.none,(.ref 1405),(.int 2178 0),(.int 957 0),(sv "/claim/cut.py" 2179)]),#[]⟩
noncomputable def fd1407:FuncData:=⟨(so "law"),(so "law"),dParams [62],dBody [62],dScope [62],3,[],.none,.none,.none,(sv "law_ki0008_02" 2137),none,(.ref 1406),.none,0⟩
noncomputable def o1407 (P:Params):Obj:=fo fd1407
noncomputable def K (P:Params):Frag:=[(2,o2 P),(3,o3 P),(90,o90 P),(91,o91 P),(123,o123 P),(124,o124 P),(200,o200 P),(201,o201 P),(230,o230 P),(231,o231 P),(266,o266 P),(267,o267 P),(289,o289 P),(290,o290 P),(477,o477 P),(478,o478 P),(729,o729 P),(730,o730 P),(741,o741 P),(742,o742 P),(748,o748 P),(749,o749 P),(762,o762 P),(763,o763 P),(769,o769 P),(770,o770 P),(776,o776 P),(777,o777 P),(783,o783 P),(784,o784 P),(790,o790 P),(791,o791 P),(804,o804 P),(805,o805 P),(806,o806 P),(812,o812 P),(813,o813 P),(814,o814 P),(820,o820 P),(821,o821 P),(822,o822 P),(828,o828 P),(829,o829 P),(842,o842 P),(843,o843 P),(844,o844 P),(850,o850 P),(851,o851 P),(852,o852 P),(858,o858 P),(859,o859 P),(861,o861 P),(863,o863 P),(864,o864 P),(865,o865 P),(866,o866 P),(867,o867 P),(873,o873 P),(890,o890 P),(891,o891 P),(897,o897 P),(898,o898 P),(904,o904 P),(905,o905 P),(911,o911 P),(912,o912 P),(925,o925 P),(926,o926 P),(927,o927 P),(928,o928 P),(929,o929 P),(930,o930 P),(931,o931 P),(934,o934 P),(940,o940 P),(941,o941 P),(950,o950 P),(956,o956 P),(957,o957 P),(958,o958 P),(964,o964 P),(965,o965 P),(966,o966 P),(972,o972 P),(973,o973 P),(974,o974 P),(980,o980 P),(981,o981 P),(987,o987 P),(988,o988 P),(994,o994 P),(995,o995 P),(1003,o1003 P),(1009,o1009 P),(1010,o1010 P),(1011,o1011 P),(1012,o1012 P),(1013,o1013 P),(1021,o1021 P),(1022,o1022 P),(1037,o1037 P),(1038,o1038 P),(1044,o1044 P),(1045,o1045 P),(1058,o1058 P),(1059,o1059 P),(1060,o1060 P),(1062,o1062 P),(1063,o1063 P),(1064,o1064 P),(1065,o1065 P),(1066,o1066 P),(1067,o1067 P),(1070,o1070 P),(1076,o1076 P),(1077,o1077 P),(1083,o1083 P),(1084,o1084 P),(1085,o1085 P),(1091,o1091 P),(1092,o1092 P),(1093,o1093 P),(1099,o1099 P),(1100,o1100 P),(1101,o1101 P),(1107,o1107 P),(1108,o1108 P),(1128,o1128 P),(1129,o1129 P),(1130,o1130 P),(1131,o1131 P),(1137,o1137 P),(1138,o1138 P),(1144,o1144 P),(1145,o1145 P),(1153,o1153 P),(1154,o1154 P),(1155,o1155 P),(1263,o1263 P),(1264,o1264 P),(1270,o1270 P),(1271,o1271 P),(1277,o1277 P),(1278,o1278 P),(1279,o1279 P),(1281,o1281 P),(1282,o1282 P),(1283,o1283 P),(1284,o1284 P),(1285,o1285 P),(1289,o1289 P),(1295,o1295 P),(1296,o1296 P),(1302,o1302 P),(1303,o1303 P),(1304,o1304 P),(1310,o1310 P),(1311,o1311 P),(1312,o1312 P),(1318,o1318 P),(1319,o1319 P),(1320,o1320 P),(1326,o1326 P),(1327,o1327 P),(1340,o1340 P),(1341,o1341 P),(1342,o1342 P),(1343,o1343 P),(1347,o1347 P),(1348,o1348 P),(1354,o1354 P),(1355,o1355 P),(1363,o1363 P),(1369,o1369 P),(1370,o1370 P),(1371,o1371 P),(1372,o1372 P),(1373,o1373 P),(1379,o1379 P),(1380,o1380 P),(1384,o1384 P),(1385,o1385 P),(1389,o1389 P),(1390,o1390 P),(1396,o1396 P),(1397,o1397 P),(1401,o1401 P),(1402,o1402 P),(1406,o1406 P),(1407,o1407 P)]
end
end
section
namespace Hd
noncomputable abbrev pw:Program:=PySem.Challenge.pw_ki0008_02
noncomputable def hEnv:Env:={ scope:=pw.main.scope,locals:=mainNs,globals:=mainNs,cells:=[],code:=.ref 52,frame:=some 53 }
noncomputable abbrev hBody:List Stmt:=behindTheImports pw
noncomputable abbrev hCode:Code:=.body hBody hEnv
noncomputable abbrev p0:Pos:=⟨0,0,0,0⟩
noncomputable abbrev pf:Pos:=⟨957,0,983,66⟩
noncomputable abbrev hB:List Frame:=[topFrame p0]
noncomputable def en (P:Params) (k:Str) (t:Nat) (v:Value):DictEntry:=⟨PyData.keyHash P k,.str k t,v⟩
noncomputable def hOld (P:Params):List Obj:=[
⟨(.type "dict"),none,(.dict #[en P "__name__" 1 (.str "builtins" 160),en P "__doc__" 2 (.builtin "builtins.__doc__:str#opaque"),en P "__package__" 3 (.builtin "builtins.__package__:str#opaque"),en P "__loader__" 4 (.builtin "builtins.__loader__:shared#opaque"),en P "__spec__" 5 (.builtin "builtins.__spec__#opaque"),en P "__build_class__" 6 (.builtin "__build_class__"),en P "__import__" 7 (.builtin "__import__"),en P "abs" 8 (.builtin "abs"),en P "all" 9 (.builtin "all"),en P "any" 10 (.builtin "any"),en P "ascii" 11 (.builtin "ascii"),en P "bin" 12 (.builtin "bin"),en P "breakpoint" 13 (.builtin "breakpoint"),en P "callable" 14 (.builtin "callable"),en P "chr" 15 (.builtin "chr"),en P "compile" 16 (.builtin "compile"),en P "delattr" 17 (.builtin "delattr"),en P "dir" 18 (.builtin "dir"),en P "divmod" 19 (.builtin "divmod"),en P "eval" 20 (.builtin "eval"),en P "exec" 21 (.builtin "exec"),en P "format" 22 (.builtin "format"),en P "getattr" 23 (.builtin "getattr"),en P "globals" 24 (.builtin "globals"),en P "hasattr" 25 (.builtin "hasattr"),en P "hash" 26 (.builtin "hash"),en P "hex" 27 (.builtin "hex"),en P "id" 28 (.builtin "id"),en P "input" 29 (.builtin "input"),en P "isinstance" 30 (.builtin "isinstance"),en P "issubclass" 31 (.builtin "issubclass"),en P "iter" 32 (.builtin "iter"),en P "aiter" 33 (.builtin "aiter"),en P "len" 34 (.builtin "len"),en P "locals" 35 (.builtin "locals"),en P "max" 36 (.builtin "max"),en P "min" 37 (.builtin "min"),en P "next" 38 (.builtin "next"),en P "anext" 39 (.builtin "anext"),en P "oct" 40 (.builtin "oct"),en P "ord" 41 (.builtin "ord"),en P "pow" 42 (.builtin "pow"),en P "print" 43 (.builtin "print"),en P "repr" 44 (.builtin "repr"),en P "round" 45 (.builtin "round"),en P "setattr" 46 (.builtin "setattr"),en P "sorted" 47 (.builtin "sorted"),en P "sum" 48 (.builtin "sum"),en P "vars" 49 (.builtin "vars"),en P "None" 50 .none,en P "Ellipsis" 51 .ellipsis,en P "NotImplemented" 52 .notImplemented,en P "False" 53 (.bool false),en P "True" 54 (.bool true),en P "bool" 55 (.type "bool"),en P "memoryview" 56 (.type "memoryview"),en P "bytearray" 57 (.type "bytearray"),en P "bytes" 58 (.type "bytes"),en P "classmethod" 59 (.type "classmethod"),en P "complex" 60 (.type "complex"),en P "dict" 61 (.type "dict"),en P "enumerate" 62 (.type "enumerate"),en P "filter" 63 (.type "filter"),en P "float" 64 (.type "float"),en P "frozenset" 65 (.type "frozenset"),en P "property" 66 (.type "property"),en P "int" 67 (.type "int"),en P "list" 68 (.type "list"),en P "map" 69 (.type "map"),en P "object" 70 (.type "object"),en P "range" 71 (.type "range"),en P "reversed" 72 (.type "reversed"),en P "set" 73 (.type "set"),en P "slice" 74 (.type "slice"),en P "staticmethod" 75 (.type "staticmethod"),en P "str" 76 (.type "str"),en P "super" 77 (.type "super"),en P "tuple" 78 (.type "tuple"),en P "type" 79 (.type "type"),en P "zip" 80 (.type "zip"),en P "__debug__" 81 (.bool true),en P "BaseException" 82 (.type "BaseException"),en P "BaseExceptionGroup" 83 (.type "BaseExceptionGroup"),en P "Exception" 84 (.type "Exception"),en P "GeneratorExit" 85 (.type "GeneratorExit"),en P "KeyboardInterrupt" 86 (.type "KeyboardInterrupt"),en P "SystemExit" 87 (.type "SystemExit"),en P "ArithmeticError" 88 (.type "ArithmeticError"),en P "AssertionError" 89 (.type "AssertionError"),en P "AttributeError" 90 (.type "AttributeError"),en P "BufferError" 91 (.type "BufferError"),en P "EOFError" 92 (.type "EOFError"),en P "ImportError" 93 (.type "ImportError"),en P "LookupError" 94 (.type "LookupError"),en P "MemoryError" 95 (.type "MemoryError"),en P "NameError" 96 (.type "NameError"),en P "OSError" 97 (.type "OSError"),en P "ReferenceError" 98 (.type "ReferenceError"),en P "RuntimeError" 99 (.type "RuntimeError"),en P "StopAsyncIteration" 100 (.type "StopAsyncIteration"),en P "StopIteration" 101 (.type "StopIteration"),en P "SyntaxError" 102 (.type "SyntaxError"),en P "SystemError" 103 (.type "SystemError"),en P "TypeError" 104 (.type "TypeError"),en P "ValueError" 105 (.type "ValueError"),en P "Warning" 106 (.type "Warning"),en P "FloatingPointError" 107 (.type "FloatingPointError"),en P "OverflowError" 108 (.type "OverflowError"),en P "ZeroDivisionError" 109 (.type "ZeroDivisionError"),en P "BytesWarning" 110 (.type "BytesWarning"),en P "DeprecationWarning" 111 (.type "DeprecationWarning"),en P "EncodingWarning" 112 (.type "EncodingWarning"),en P "FutureWarning" 113 (.type "FutureWarning"),en P "ImportWarning" 114 (.type "ImportWarning"),en P "PendingDeprecationWarning" 115 (.type "PendingDeprecationWarning"),en P "ResourceWarning" 116 (.type "ResourceWarning"),en P "RuntimeWarning" 117 (.type "RuntimeWarning"),en P "SyntaxWarning" 118 (.type "SyntaxWarning"),en P "UnicodeWarning" 119 (.type "UnicodeWarning"),en P "UserWarning" 120 (.type "UserWarning"),en P "BlockingIOError" 121 (.type "BlockingIOError"),en P "ChildProcessError" 122 (.type "ChildProcessError"),en P "ConnectionError" 123 (.type "ConnectionError"),en P "FileExistsError" 124 (.type "FileExistsError"),en P "FileNotFoundError" 125 (.type "FileNotFoundError"),en P "InterruptedError" 126 (.type "InterruptedError"),en P "IsADirectoryError" 127 (.type "IsADirectoryError"),en P "NotADirectoryError" 128 (.type "NotADirectoryError"),en P "PermissionError" 129 (.type "PermissionError"),en P "ProcessLookupError" 130 (.type "ProcessLookupError"),en P "TimeoutError" 131 (.type "TimeoutError"),en P "IndentationError" 132 (.type "IndentationError"),en P "_IncompleteInputError" 133 (.type "_IncompleteInputError"),en P "IndexError" 134 (.type "IndexError"),en P "KeyError" 135 (.type "KeyError"),en P "ModuleNotFoundError" 136 (.type "ModuleNotFoundError"),en P "NotImplementedError" 137 (.type "NotImplementedError"),en P "PythonFinalizationError" 138 (.type "PythonFinalizationError"),en P "RecursionError" 139 (.type "RecursionError"),en P "UnboundLocalError" 140 (.type "UnboundLocalError"),en P "UnicodeError" 141 (.type "UnicodeError"),en P "BrokenPipeError" 142 (.type "BrokenPipeError"),en P "ConnectionAbortedError" 143 (.type "ConnectionAbortedError"),en P "ConnectionRefusedError" 144 (.type "ConnectionRefusedError"),en P "ConnectionResetError" 145 (.type "ConnectionResetError"),en P "TabError" 146 (.type "TabError"),en P "UnicodeDecodeError" 147 (.type "UnicodeDecodeError"),en P "UnicodeEncodeError" 148 (.type "UnicodeEncodeError"),en P "UnicodeTranslateError" 149 (.type "UnicodeTranslateError"),en P "ExceptionGroup" 150 (.type "ExceptionGroup"),en P "EnvironmentError" 151 (.type "OSError"),en P "IOError" 152 (.type "OSError"),en P "open" 153 (.builtin "open"),en P "quit" 154 (.builtin "builtins.quit#opaque"),en P "exit" 155 (.builtin "builtins.exit#opaque"),en P "copyright" 156 (.builtin "builtins.copyright#opaque"),en P "credits" 157 (.builtin "builtins.credits#opaque"),en P "license" 158 (.builtin "builtins.license#opaque"),en P "help" 159 (.builtin "builtins.help#opaque")] 159),#[]⟩,
⟨(.type "dict"),none,(.dict #[en P "builtins" 162 (.ref 4),en P "__main__" 163 (.ref 5),en P "_collections" 246 (.ref 13),en P "_heapq" 350 (.ref 31)] 4),#[]⟩,
⟨.none,none,(.dict #[en P "\x69mport.loaded._collections" 185 (.bool true),en P "class._frozen_importlib.BuiltinImporter" 187 (.ref 15),en P "watched.\x69mport" 208 (.ref 19),en P "class._frozen_importlib.ModuleSpec" 218 (.ref 23),en P "sys.modules.booked-epoch" 247 (.int 4 0),en P "sys.modules.landed._collections" 248 (.bool true),en P "\x69mport.later-laid._collections" 263 (.bool true),en P "watched.library" 265 (.ref 28),en P "watched.library-objects" 0 (.str "\x0d\x1f" 0),en P "watched.library-deep._collections" 266 (.str "\x04\x00\x00\x0c\x04\x00\x00\x0c\x04\x00\x00\x03\x04\x00\x00\x0c\x08\x04dict\x02" 0),en P "\x69mport.loaded._heapq" 279 (.bool true),en P "class._frozen_importlib_external._LoaderBasics" 284 (.ref 34),en P "class._frozen_importlib_external.FileLoader" 300 (.ref 39),en P "class._frozen_importlib_external.ExtensionFileLoader" 321 (.ref 44),en P "\x69mport.later-laid._heapq" 369 (.bool true)] 15),#[]⟩,
⟨(.type "dict"),none,(.dict #[en P "__name__" 165 (.str "__main__" 164),en P "__doc__" 166 .none,en P "__package__" 167 .none,en P "__loader__" 168 (.builtin "__main__.__loader__#opaque"),en P "__spec__" 169 .none,en P "__annotations__" 170 (.ref 6),en P "__builtins__" 171 (.ref 4),en P "__file__" 173 (.str "/claim/cut.py" 172),en P "__cached__" 174 .none,en P "deque" 272 (.type "collections.deque"),en P "heapify" 376 (.builtin "_heapq.heapify"),en P "heappop" 379 (.builtin "_heapq.heappop"),en P "heappush" 382 (.builtin "_heapq.heappush")] 13),#[]⟩,
⟨(.type "module"),(some 0),.plain,#[]⟩,
⟨(.type "module"),(some 3),.plain,#[]⟩,
⟨(.type "dict"),none,(.dict #[] 0),#[]⟩,
⟨(.type "tuple"),none,(.seq #[] 0),#[]⟩,
⟨.none,none,(.fields #[]),#[]⟩,
⟨(.type "code"),none,(.fields #[(.str "<module>" 176),(.str "<module>" 177),(.str "/claim/cut.py" 178),(.int 1 0),(.int 0 0),(.int 0 0),(.int 0 0),(.int 0 0),(.ref 7),(.bool false),(.int 175 0),(.ref 8),.none,.none,.none,.none,(.int 179 0),(.int 1 0),(.str "/claim/cut.py" 180)]),#[]⟩,
⟨(.type "frame"),none,.plain,#[(some (.ref 9)),(some (.ref 3)),(some (.ref 3)),none,(some (.str "__main__" 164)),none,(some (.ref 0))]⟩,
⟨(.type "tuple"),none,(.seq #[(.str "deque" 182)] 0),#[]⟩,
⟨(.type "dict"),none,(.dict #[en P "__name__" 250 (.str "_collections" 249),en P "__doc__" 251 (.builtin "off-the-table:_collections.__doc__:shared#opaque"),en P "__package__" 253 (.str "" 252),en P "__loader__" 254 (.builtin "off-the-table:_collections.__loader__:shared#opaque"),en P "__spec__" 255 (.builtin "off-the-table:_collections.__spec__:shared#opaque"),en P "_count_elements" 256 (.builtin "_collections._count_elements"),en P "deque" 257 (.type "collections.deque"),en P "defaultdict" 258 (.type "collections.defaultdict"),en P "_deque_iterator" 259 (.builtin "off-the-table:_collections._deque_iterator:shared#opaque"),en P "_deque_reverse_iterator" 260 (.builtin "off-the-table:_collections._deque_reverse_iterator:shared#opaque"),en P "_tuplegetter" 261 (.type "collections._tuplegetter"),en P "OrderedDict" 262 (.type "collections.OrderedDict")] 12),#[]⟩,
⟨(.type "module"),(some 12),.plain,#[]⟩,
⟨(.type "dict"),none,(.dict #[en P "__module__" 191 (.str "_frozen_importlib" 188),en P "__firstlineno__" 192 (.int 971 189),en P "__doc__" 193 (.builtin "_frozen_importlib.BuiltinImporter.__doc__:str#opaque"),en P "_ORIGIN" 194 (.str "built-in" 190),en P "find_spec" 195 (.builtin "_frozen_importlib.BuiltinImporter.find_spec#opaque"),en P "create_module" 196 (.builtin "_frozen_importlib.BuiltinImporter.create_module#opaque"),en P "exec_module" 197 (.builtin "_frozen_importlib.BuiltinImporter.exec_module#opaque"),en P "get_code" 198 (.builtin "_frozen_importlib.BuiltinImporter.get_code#opaque"),en P "get_source" 199 (.builtin "_frozen_importlib.BuiltinImporter.get_source#opaque"),en P "is_package" 200 (.builtin "_frozen_importlib.BuiltinImporter.is_package#opaque"),en P "load_module" 201 (.builtin "_frozen_importlib.BuiltinImporter.load_module#opaque"),en P "__static_attributes__" 202 (.ref 16),en P "__dict__" 204 (.ref 17),en P "__weakref__" 206 (.ref 18)] 14),#[]⟩,
⟨(.type "type"),none,(.cls ⟨"BuiltinImporter", [(.type "object")],[(.ref 15),(.type "object")],14, "BuiltinImporter", true,[],[],false,none,false⟩),#[]⟩,
⟨(.type "tuple"),none,(.seq #[] 0),#[]⟩,
⟨(.type "getset_descriptor"),none,(.fields #[(.str "__dict__" 203),(.ref 15),(.builtin "function.__dict__"),(.builtin "function.__dict__#set")]),#[]⟩,
⟨(.type "getset_descriptor"),none,(.fields #[(.str "__weakref__" 205),(.ref 15),(.builtin "ExceptionGroup.__weakref__"),.none]),#[]⟩,
⟨.none,none,(.seq #[(.int 14 0),(.str ⟨#[6,191,10,95,95,109,111,100,117,108,101,95,95,6,188,17,95,102,114,111,122,101,110,95,105,109,112,111,114,116,108,105,98,6,192,15,95,95,102,105,114,115,116,108,105,110,101,110,111,95,95,4,189,0,971,6,193,7,95,95,100,111,99,95,95,9,52,95,102,114,111,122,101,110,95,105,109,112,111,114,116,108,105,98,46,66,117,105,108,116,105,110,73,109,112,111,114,116,101,114,46,95,95,100,111,99,95,95,58,115,116,114,35,111,112,97,113,117,101,6,194,7,95,79,82,73,71,73,78,6,190,8,98,117,105,108,116,45,105,110,6,195,9,102,105,110,100,95,115,112,101,99,9,50,95,102,114,111,122,101,110,95,105,109,112,111,114,116,108,105,98,46,66,117,105,108,116,105,110,73,109,112,111,114,116,101,114,46,102,105,110,100,95,115,112,101,99,35,111,112,97,113,117,101,6,196,13,99,114,101,97,116,101,95,109,111,100,117,108,101,9,54,95,102,114,111,122,101,110,95,105,109,112,111,114,116,108,105,98,46,66,117,105,108,116,105,110,73,109,112,111,114,116,101,114,46,99,114,101,97,116,101,95,109,111,100,117,108,101,35,111,112,97,113,117,101,6,197,11,101,120,101,99,95,109,111,100,117,108,101,9,52,95,102,114,111,122,101,110,95,105,109,112,111,114,116,108,105,98,46,66,117,105,108,116,105,110,73,109,112,111,114,116,101,114,46,101,120,101,99,95,109,111,100,117,108,101,35,111,112,97,113,117,101,6,198,8,103,101,116,95,99,111,100,101,9,49,95,102,114,111,122,101,110,95,105,109,112,111,114,116,108,105,98,46,66,117,105,108,116,105,110,73,109,112,111,114,116,101,114,46,103,101,116,95,99,111,100,101,35,111,112,97,113,117,101,6,199,10,103,101,116,95,115,111,117,114,99,101,9,51,95,102,114,111,122,101,110,95,105,109,112,111,114,116,108,105,98,46,66,117,105,108,116,105,110,73,109,112,111,114,116,101,114,46,103,101,116,95,115,111,117,114,99,101,35,111,112,97,113,117,101,6,200,10,105,115,95,112,97,99,107,97,103,101,9,51,95,102,114,111,122,101,110,95,105,109,112,111,114,116,108,105,98,46,66,117,105,108,116,105,110,73,109,112,111,114,116,101,114,46,105,115,95,112,97,99,107,97,103,101,35,111,112,97,113,117,101,6,201,11,108,111,97,100,95,109,111,100,117,108,101,9,52,95,102,114,111,122,101,110,95,105,109,112,111,114,116,108,105,98,46,66,117,105,108,116,105,110,73,109,112,111,114,116,101,114,46,108,111,97,100,95,109,111,100,117,108,101,35,111,112,97,113,117,101,6,202,21,95,95,115,116,97,116,105,99,95,97,116,116,114,105,98,117,116,101,115,95,95,4,0,0,16,6,204,8,95,95,100,105,99,116,95,95,4,0,0,17,6,206,11,95,95,119,101,97,107,114,101,102,95,95,4,0,0,18]⟩ 0),(.bool true),(.bool true),(.str "" 207),(.int 22 0),(.str ⟨#[6,229,10,95,95,109,111,100,117,108,101,95,95,6,219,17,95,102,114,111,122,101,110,95,105,109,112,111,114,116,108,105,98,6,230,15,95,95,102,105,114,115,116,108,105,110,101,110,111,95,95,4,220,0,562,6,231,7,95,95,100,111,99,95,95,9,47,95,102,114,111,122,101,110,95,105,109,112,111,114,116,108,105,98,46,77,111,100,117,108,101,83,112,101,99,46,95,95,100,111,99,95,95,58,115,116,114,35,111,112,97,113,117,101,6,232,8,95,95,105,110,105,116,95,95,9,44,95,102,114,111,122,101,110,95,105,109,112,111,114,116,108,105,98,46,77,111,100,117,108,101,83,112,101,99,46,95,95,105,110,105,116,95,95,35,111,112,97,113,117,101,6,233,8,95,95,114,101,112,114,95,95,9,44,95,102,114,111,122,101,110,95,105,109,112,111,114,116,108,105,98,46,77,111,100,117,108,101,83,112,101,99,46,95,95,114,101,112,114,95,95,35,111,112,97,113,117,101,6,234,6,95,95,101,113,95,95,9,42,95,102,114,111,122,101,110,95,105,109,112,111,114,116,108,105,98,46,77,111,100,117,108,101,83,112,101,99,46,95,95,101,113,95,95,35,111,112,97,113,117,101,6,235,6,99,97,99,104,101,100,9,42,95,102,114,111,122,101,110,95,105,109,112,111,114,116,108,105,98,46,77,111,100,117,108,101,83,112,101,99,46,99,97,99,104,101,100,35,111,112,97,113,117,101,6,236,6,112,97,114,101,110,116,9,42,95,102,114,111,122,101,110,95,105,109,112,111,114,116,108,105,98,46,77,111,100,117,108,101,83,112,101,99,46,112,97,114,101,110,116,35,111,112,97,113,117,101,6,237,12,104,97,115,95,108,111,99,97,116,105,111,110,9,48,95,102,114,111,122,101,110,95,105,109,112,111,114,116,108,105,98,46,77,111,100,117,108,101,83,112,101,99,46,104,97,115,95,108,111,99,97,116,105,111,110,35,111,112,97,113,117,101,6,238,21,95,95,115,116,97,116,105,99,95,97,116,116,114,105,98,117,116,101,115,95,95,4,0,0,24,6,240,8,95,95,100,105,99,116,95,95,4,0,0,25,6,242,11,95,95,119,101,97,107,114,101,102,95,95,4,0,0,26,6,243,8,95,95,104,97,115,104,95,95,0]⟩ 0),(.bool true),(.bool true),(.str "" 244),(.int 33 0),(.str ⟨#[6,287,10,95,95,109,111,100,117,108,101,95,95,6,285,26,95,102,114,111,122,101,110,95,105,109,112,111,114,116,108,105,98,95,101,120,116,101,114,110,97,108,6,288,15,95,95,102,105,114,115,116,108,105,110,101,110,111,95,95,4,286,0,1001,6,289,7,95,95,100,111,99,95,95,9,59,95,102,114,111,122,101,110,95,105,109,112,111,114,116,108,105,98,95,101,120,116,101,114,110,97,108,46,95,76,111,97,100,101,114,66,97,115,105,99,115,46,95,95,100,111,99,95,95,58,115,116,114,35,111,112,97,113,117,101,6,290,10,105,115,95,112,97,99,107,97,103,101,9,58,95,102,114,111,122,101,110,95,105,109,112,111,114,116,108,105,98,95,101,120,116,101,114,110,97,108,46,95,76,111,97,100,101,114,66,97,115,105,99,115,46,105,115,95,112,97,99,107,97,103,101,35,111,112,97,113,117,101,6,291,13,99,114,101,97,116,101,95,109,111,100,117,108,101,9,61,95,102,114,111,122,101,110,95,105,109,112,111,114,116,108,105,98,95,101,120,116,101,114,110,97,108,46,95,76,111,97,100,101,114,66,97,115,105,99,115,46,99,114,101,97,116,101,95,109,111,100,117,108,101,35,111,112,97,113,117,101,6,292,11,101,120,101,99,95,109,111,100,117,108,101,9,59,95,102,114,111,122,101,110,95,105,109,112,111,114,116,108,105,98,95,101,120,116,101,114,110,97,108,46,95,76,111,97,100,101,114,66,97,115,105,99,115,46,101,120,101,99,95,109,111,100,117,108,101,35,111,112,97,113,117,101,6,293,11,108,111,97,100,95,109,111,100,117,108,101,9,59,95,102,114,111,122,101,110,95,105,109,112,111,114,116,108,105,98,95,101,120,116,101,114,110,97,108,46,95,76,111,97,100,101,114,66,97,115,105,99,115,46,108,111,97,100,95,109,111,100,117,108,101,35,111,112,97,113,117,101,6,294,21,95,95,115,116,97,116,105,99,95,97,116,116,114,105,98,117,116,101,115,95,95,4,0,0,35,6,296,8,95,95,100,105,99,116,95,95,4,0,0,36,6,298,11,95,95,119,101,97,107,114,101,102,95,95,4,0,0,37]⟩ 0),(.bool true),(.bool true),(.str "" 299),(.int 38 0),(.str ⟨#[6,305,10,95,95,109,111,100,117,108,101,95,95,6,301,26,95,102,114,111,122,101,110,95,105,109,112,111,114,116,108,105,98,95,101,120,116,101,114,110,97,108,6,306,15,95,95,102,105,114,115,116,108,105,110,101,110,111,95,95,4,302,0,1176,6,307,7,95,95,100,111,99,95,95,9,56,95,102,114,111,122,101,110,95,105,109,112,111,114,116,108,105,98,95,101,120,116,101,114,110,97,108,46,70,105,108,101,76,111,97,100,101,114,46,95,95,100,111,99,95,95,58,115,116,114,35,111,112,97,113,117,101,6,308,8,95,95,105,110,105,116,95,95,9,53,95,102,114,111,122,101,110,95,105,109,112,111,114,116,108,105,98,95,101,120,116,101,114,110,97,108,46,70,105,108,101,76,111,97,100,101,114,46,95,95,105,110,105,116,95,95,35,111,112,97,113,117,101,6,309,6,95,95,101,113,95,95,9,51,95,102,114,111,122,101,110,95,105,109,112,111,114,116,108,105,98,95,101,120,116,101,114,110,97,108,46,70,105,108,101,76,111,97,100,101,114,46,95,95,101,113,95,95,35,111,112,97,113,117,101,6,310,8,95,95,104,97,115,104,95,95,9,53,95,102,114,111,122,101,110,95,105,109,112,111,114,116,108,105,98,95,101,120,116,101,114,110,97,108,46,70,105,108,101,76,111,97,100,101,114,46,95,95,104,97,115,104,95,95,35,111,112,97,113,117,101,6,311,11,108,111,97,100,95,109,111,100,117,108,101,9,56,95,102,114,111,122,101,110,95,105,109,112,111,114,116,108,105,98,95,101,120,116,101,114,110,97,108,46,70,105,108,101,76,111,97,100,101,114,46,108,111,97,100,95,109,111,100,117,108,101,35,111,112,97,113,117,101,6,312,12,103,101,116,95,102,105,108,101,110,97,109,101,9,57,95,102,114,111,122,101,110,95,105,109,112,111,114,116,108,105,98,95,101,120,116,101,114,110,97,108,46,70,105,108,101,76,111,97,100,101,114,46,103,101,116,95,102,105,108,101,110,97,109,101,35,111,112,97,113,117,101,6,313,8,103,101,116,95,100,97,116,97,9,53,95,102,114,111,122,101,110,95,105,109,112,111,114,116,108,105,98,95,101,120,116,101,114,110,97,108,46,70,105,108,101,76,111,97,100,101,114,46,103,101,116,95,100,97,116,97,35,111,112,97,113,117,101,6,314,19,103,101,116,95,114,101,115,111,117,114,99,101,95,114,101,97,100,101,114,9,64,95,102,114,111,122,101,110,95,105,109,112,111,114,116,108,105,98,95,101,120,116,101,114,110,97,108,46,70,105,108,101,76,111,97,100,101,114,46,103,101,116,95,114,101,115,111,117,114,99,101,95,114,101,97,100,101,114,35,111,112,97,113,117,101,6,315,21,95,95,115,116,97,116,105,99,95,97,116,116,114,105,98,117,116,101,115,95,95,4,0,0,40,6,317,8,95,95,100,105,99,116,95,95,4,0,0,41,6,319,11,95,95,119,101,97,107,114,101,102,95,95,4,0,0,42]⟩ 0),(.bool true),(.bool true),(.str "" 320),(.int 43 0),(.str ⟨#[6,326,10,95,95,109,111,100,117,108,101,95,95,6,322,26,95,102,114,111,122,101,110,95,105,109,112,111,114,116,108,105,98,95,101,120,116,101,114,110,97,108,6,327,15,95,95,102,105,114,115,116,108,105,110,101,110,111,95,95,4,323,0,1296,6,328,7,95,95,100,111,99,95,95,9,65,95,102,114,111,122,101,110,95,105,109,112,111,114,116,108,105,98,95,101,120,116,101,114,110,97,108,46,69,120,116,101,110,115,105,111,110,70,105,108,101,76,111,97,100,101,114,46,95,95,100,111,99,95,95,58,115,116,114,35,111,112,97,113,117,101,6,329,8,95,95,105,110,105,116,95,95,9,62,95,102,114,111,122,101,110,95,105,109,112,111,114,116,108,105,98,95,101,120,116,101,114,110,97,108,46,69,120,116,101,110,115,105,111,110,70,105,108,101,76,111,97,100,101,114,46,95,95,105,110,105,116,95,95,35,111,112,97,113,117,101,6,330,6,95,95,101,113,95,95,9,60,95,102,114,111,122,101,110,95,105,109,112,111,114,116,108,105,98,95,101,120,116,101,114,110,97,108,46,69,120,116,101,110,115,105,111,110,70,105,108,101,76,111,97,100,101,114,46,95,95,101,113,95,95,35,111,112,97,113,117,101,6,331,8,95,95,104,97,115,104,95,95,9,62,95,102,114,111,122,101,110,95,105,109,112,111,114,116,108,105,98,95,101,120,116,101,114,110,97,108,46,69,120,116,101,110,115,105,111,110,70,105,108,101,76,111,97,100,101,114,46,95,95,104,97,115,104,95,95,35,111,112,97,113,117,101,6,332,13,99,114,101,97,116,101,95,109,111,100,117,108,101,9,67,95,102,114,111,122,101,110,95,105,109,112,111,114,116,108,105,98,95,101,120,116,101,114,110,97,108,46,69,120,116,101,110,115,105,111,110,70,105,108,101,76,111,97,100,101,114,46,99,114,101,97,116,101,95,109,111,100,117,108,101,35,111,112,97,113,117,101,6,333,11,101,120,101,99,95,109,111,100,117,108,101,9,65,95,102,114,111,122,101,110,95,105,109,112,111,114,116,108,105,98,95,101,120,116,101,114,110,97,108,46,69,120,116,101,110,115,105,111,110,70,105,108,101,76,111,97,100,101,114,46,101,120,101,99,95,109,111,100,117,108,101,35,111,112,97,113,117,101,6,334,10,105,115,95,112,97,99,107,97,103,101,9,64,95,102,114,111,122,101,110,95,105,109,112,111,114,116,108,105,98,95,101,120,116,101,114,110,97,108,46,69,120,116,101,110,115,105,111,110,70,105,108,101,76,111,97,100,101,114,46,105,115,95,112,97,99,107,97,103,101,35,111,112,97,113,117,101,6,335,8,103,101,116,95,99,111,100,101,9,62,95,102,114,111,122,101,110,95,105,109,112,111,114,116,108,105,98,95,101,120,116,101,114,110,97,108,46,69,120,116,101,110,115,105,111,110,70,105,108,101,76,111,97,100,101,114,46,103,101,116,95,99,111,100,101,35,111,112,97,113,117,101,6,336,10,103,101,116,95,115,111,117,114,99,101,9,64,95,102,114,111,122,101,110,95,105,109,112,111,114,116,108,105,98,95,101,120,116,101,114,110,97,108,46,69,120,116,101,110,115,105,111,110,70,105,108,101,76,111,97,100,101,114,46,103,101,116,95,115,111,117,114,99,101,35,111,112,97,113,117,101,6,337,12,103,101,116,95,102,105,108,101,110,97,109,101,9,66,95,102,114,111,122,101,110,95,105,109,112,111,114,116,108,105,98,95,101,120,116,101,114,110,97,108,46,69,120,116,101,110,115,105,111,110,70,105,108,101,76,111,97,100,101,114,46,103,101,116,95,102,105,108,101,110,97,109,101,35,111,112,97,113,117,101,6,338,21,95,95,115,116,97,116,105,99,95,97,116,116,114,105,98,117,116,101,115,95,95,4,0,0,45]⟩ 0),(.bool true),(.bool true),(.str "" 339)] 4),#[]⟩,
⟨(.type "list"),none,(.seq #[] 0),#[]⟩,
⟨(.type "dict"),none,(.dict #[en P "name" 210 (.str "_collections" 209),en P "loader" 211 (.ref 15),en P "origin" 212 (.str "built-in" 186),en P "loader_state" 213 .none,en P "submodule_search_locations" 214 .none,en P "_uninitialized_submodules" 215 (.ref 20),en P "_set_fileattr" 216 (.bool false),en P "_cached" 217 .none,en P "_initializing" 245 (.bool false)] 9),#[]⟩,
⟨(.type "dict"),none,(.dict #[en P "__module__" 229 (.str "_frozen_importlib" 219),en P "__firstlineno__" 230 (.int 562 220),en P "__doc__" 231 (.builtin "_frozen_importlib.ModuleSpec.__doc__:str#opaque"),en P "__init__" 232 (.builtin "_frozen_importlib.ModuleSpec.__init__#opaque"),en P "__repr__" 233 (.builtin "_frozen_importlib.ModuleSpec.__repr__#opaque"),en P "__eq__" 234 (.builtin "_frozen_importlib.ModuleSpec.__eq__#opaque"),en P "cached" 235 (.builtin "_frozen_importlib.ModuleSpec.cached#opaque"),en P "parent" 236 (.builtin "_frozen_importlib.ModuleSpec.parent#opaque"),en P "has_location" 237 (.builtin "_frozen_importlib.ModuleSpec.has_location#opaque"),en P "__static_attributes__" 238 (.ref 24),en P "__dict__" 240 (.ref 25),en P "__weakref__" 242 (.ref 26),en P "__hash__" 243 .none] 13),#[]⟩,
⟨(.type "type"),none,(.cls ⟨"ModuleSpec", [(.type "object")],[(.ref 23),(.type "object")],22, "ModuleSpec", true,[],[],false,none,false⟩),#[]⟩,
⟨(.type "tuple"),none,(.seq #[(.str "_cached" 221),(.str "_set_fileattr" 222),(.str "_uninitialized_submodules" 223),(.str "loader" 224),(.str "loader_state" 225),(.str "name" 226),(.str "origin" 227),(.str "submodule_search_locations" 228)] 0),#[]⟩,
⟨(.type "getset_descriptor"),none,(.fields #[(.str "__dict__" 239),(.ref 23),(.builtin "function.__dict__"),(.builtin "function.__dict__#set")]),#[]⟩,
⟨(.type "getset_descriptor"),none,(.fields #[(.str "__weakref__" 241),(.ref 23),(.builtin "ExceptionGroup.__weakref__"),.none]),#[]⟩,
⟨(.ref 23),(some 21),.plain,#[]⟩,
⟨.none,none,(.seq #[(.int 12 0),(.str ⟨#[6,250,8,95,95,110,97,109,101,95,95,6,249,12,95,99,111,108,108,101,99,116,105,111,110,115,6,251,7,95,95,100,111,99,95,95,9,31,95,99,111,108,108,101,99,116,105,111,110,115,46,95,95,100,111,99,95,95,58,115,116,114,35,111,112,97,113,117,101,6,253,11,95,95,112,97,99,107,97,103,101,95,95,6,252,0,6,254,10,95,95,108,111,97,100,101,114,95,95,4,0,0,15,6,255,8,95,95,115,112,101,99,95,95,4,0,0,27,6,256,15,95,99,111,117,110,116,95,101,108,101,109,101,110,116,115,9,28,95,99,111,108,108,101,99,116,105,111,110,115,46,95,99,111,117,110,116,95,101,108,101,109,101,110,116,115,6,257,5,100,101,113,117,101,8,17,99,111,108,108,101,99,116,105,111,110,115,46,100,101,113,117,101,6,258,11,100,101,102,97,117,108,116,100,105,99,116,8,23,99,111,108,108,101,99,116,105,111,110,115,46,100,101,102,97,117,108,116,100,105,99,116,6,259,15,95,100,101,113,117,101,95,105,116,101,114,97,116,111,114,8,27,99,111,108,108,101,99,116,105,111,110,115,46,95,100,101,113,117,101,95,105,116,101,114,97,116,111,114,6,260,23,95,100,101,113,117,101,95,114,101,118,101,114,115,101,95,105,116,101,114,97,116,111,114,8,35,99,111,108,108,101,99,116,105,111,110,115,46,95,100,101,113,117,101,95,114,101,118,101,114,115,101,95,105,116,101,114,97,116,111,114,6,261,12,95,116,117,112,108,101,103,101,116,116,101,114,8,24,99,111,108,108,101,99,116,105,111,110,115,46,95,116,117,112,108,101,103,101,116,116,101,114,6,262,11,79,114,100,101,114,101,100,68,105,99,116,8,23,99,111,108,108,101,99,116,105,111,110,115,46,79,114,100,101,114,101,100,68,105,99,116]⟩ 0),(.bool true),(.bool false),(.str "_collections" 264),(.int 30 0),(.str ⟨#[6,353,8,95,95,110,97,109,101,95,95,6,352,6,95,104,101,97,112,113,6,354,7,95,95,100,111,99,95,95,9,25,95,104,101,97,112,113,46,95,95,100,111,99,95,95,58,115,116,114,35,111,112,97,113,117,101,6,356,11,95,95,112,97,99,107,97,103,101,95,95,6,355,0,6,357,10,95,95,108,111,97,100,101,114,95,95,4,0,0,46,6,358,8,95,95,115,112,101,99,95,95,4,0,0,49,6,359,8,104,101,97,112,112,117,115,104,9,15,95,104,101,97,112,113,46,104,101,97,112,112,117,115,104,6,360,11,104,101,97,112,112,117,115,104,112,111,112,9,18,95,104,101,97,112,113,46,104,101,97,112,112,117,115,104,112,111,112,6,361,7,104,101,97,112,112,111,112,9,14,95,104,101,97,112,113,46,104,101,97,112,112,111,112,6,362,11,104,101,97,112,114,101,112,108,97,99,101,9,18,95,104,101,97,112,113,46,104,101,97,112,114,101,112,108,97,99,101,6,363,7,104,101,97,112,105,102,121,9,14,95,104,101,97,112,113,46,104,101,97,112,105,102,121,6,364,12,95,104,101,97,112,112,111,112,95,109,97,120,9,19,95,104,101,97,112,113,46,95,104,101,97,112,112,111,112,95,109,97,120,6,365,12,95,104,101,97,112,105,102,121,95,109,97,120,9,19,95,104,101,97,112,113,46,95,104,101,97,112,105,102,121,95,109,97,120,6,366,16,95,104,101,97,112,114,101,112,108,97,99,101,95,109,97,120,9,23,95,104,101,97,112,113,46,95,104,101,97,112,114,101,112,108,97,99,101,95,109,97,120,6,367,8,95,95,102,105,108,101,95,95,6,280,125,47,110,105,120,47,115,116,111,114,101,47,119,106,49,102,53,54,113,107,121,52,112,109,106,99,55,108,48,114,54,98,54,108,55,119,104,110,110,119,55,104,112,54,45,112,121,116,104,111,110,51,45,51,46,49,51,46,49,53,47,108,105,98,47,112,121,116,104,111,110,51,46,49,51,47,108,105,98,45,100,121,110,108,111,97,100,47,95,104,101,97,112,113,46,99,112,121,116,104,111,110,45,51,49,51,45,120,56,54,95,54,52,45,108,105,110,117,120,45,103,110,117,46,115,111,6,368,9,95,95,97,98,111,117,116,95,95,9,27,95,104,101,97,112,113,46,95,95,97,98,111,117,116,95,95,58,115,116,114,35,111,112,97,113,117,101]⟩ 0),(.bool true),(.bool false),(.str "_heapq" 370)] 1),#[]⟩,
⟨(.type "tuple"),none,(.seq #[(.str "heapify" 274),(.str "heappop" 275),(.str "heappush" 276)] 0),#[]⟩,
⟨(.type "dict"),none,(.dict #[en P "__name__" 353 (.str "_heapq" 352),en P "__doc__" 354 (.builtin "off-the-table:_heapq.__doc__:shared#opaque"),en P "__package__" 356 (.str "" 355),en P "__loader__" 357 (.builtin "off-the-table:_heapq.__loader__:shared#opaque"),en P "__spec__" 358 (.builtin "off-the-table:_heapq.__spec__:shared#opaque"),en P "heappush" 359 (.builtin "_heapq.heappush"),en P "heappushpop" 360 (.builtin "_heapq.heappushpop"),en P "heappop" 361 (.builtin "_heapq.heappop"),en P "heapreplace" 362 (.builtin "_heapq.heapreplace"),en P "heapify" 363 (.builtin "_heapq.heapify"),en P "_heappop_max" 364 (.builtin "_heapq._heappop_max"),en P "_heapify_max" 365 (.builtin "_heapq._heapify_max"),en P "_heapreplace_max" 366 (.builtin "_heapq._heapreplace_max"),en P "__file__" 367 (.str "/nix/store/wj1f56qky4pmjc7l0r6b6l7whnnw7hp6-python3-3.13.15/lib/python3.13/lib-dynload/_heapq.cpython-313-x86_64-linux-gnu.so" 280),en P "__about__" 368 (.builtin "off-the-table:_heapq.__about__:shared#opaque")] 15),#[]⟩,
⟨(.type "module"),(some 30),.plain,#[]⟩,
⟨(.type "dict"),none,(.dict #[en P "name" 282 (.str "_heapq" 281),en P "path" 283 (.str "/nix/store/wj1f56qky4pmjc7l0r6b6l7whnnw7hp6-python3-3.13.15/lib/python3.13/lib-dynload/_heapq.cpython-313-x86_64-linux-gnu.so" 280)] 2),#[]⟩,
⟨(.type "dict"),none,(.dict #[en P "__module__" 287 (.str "_frozen_importlib_external" 285),en P "__firstlineno__" 288 (.int 1001 286),en P "__doc__" 289 (.builtin "_frozen_importlib_external._LoaderBasics.__doc__:str#opaque"),en P "is_package" 290 (.builtin "_frozen_importlib_external._LoaderBasics.is_package#opaque"),en P "create_module" 291 (.builtin "_frozen_importlib_external._LoaderBasics.create_module#opaque"),en P "exec_module" 292 (.builtin "_frozen_importlib_external._LoaderBasics.exec_module#opaque"),en P "load_module" 293 (.builtin "_frozen_importlib_external._LoaderBasics.load_module#opaque"),en P "__static_attributes__" 294 (.ref 35),en P "__dict__" 296 (.ref 36),en P "__weakref__" 298 (.ref 37)] 10),#[]⟩,
⟨(.type "type"),none,(.cls ⟨"_LoaderBasics", [(.type "object")],[(.ref 34),(.type "object")],33, "_LoaderBasics", true,[],[(.ref 44)],false,none,false⟩),#[]⟩,
⟨(.type "tuple"),none,(.seq #[] 0),#[]⟩,
⟨(.type "getset_descriptor"),none,(.fields #[(.str "__dict__" 295),(.ref 34),(.builtin "function.__dict__"),(.builtin "function.__dict__#set")]),#[]⟩,
⟨(.type "getset_descriptor"),none,(.fields #[(.str "__weakref__" 297),(.ref 34),(.builtin "ExceptionGroup.__weakref__"),.none]),#[]⟩,
⟨(.type "dict"),none,(.dict #[en P "__module__" 305 (.str "_frozen_importlib_external" 301),en P "__firstlineno__" 306 (.int 1176 302),en P "__doc__" 307 (.builtin "_frozen_importlib_external.FileLoader.__doc__:str#opaque"),en P "__init__" 308 (.builtin "_frozen_importlib_external.FileLoader.__init__#opaque"),en P "__eq__" 309 (.builtin "_frozen_importlib_external.FileLoader.__eq__#opaque"),en P "__hash__" 310 (.builtin "_frozen_importlib_external.FileLoader.__hash__#opaque"),en P "load_module" 311 (.builtin "_frozen_importlib_external.FileLoader.load_module#opaque"),en P "get_filename" 312 (.builtin "_frozen_importlib_external.FileLoader.get_filename#opaque"),en P "get_data" 313 (.builtin "_frozen_importlib_external.FileLoader.get_data#opaque"),en P "get_resource_reader" 314 (.builtin "_frozen_importlib_external.FileLoader.get_resource_reader#opaque"),en P "__static_attributes__" 315 (.ref 40),en P "__dict__" 317 (.ref 41),en P "__weakref__" 319 (.ref 42)] 13),#[]⟩,
⟨(.type "type"),none,(.cls ⟨"FileLoader", [(.type "object")],[(.ref 39),(.type "object")],38, "FileLoader", true,[],[(.ref 44)],false,none,false⟩),#[]⟩,
⟨(.type "tuple"),none,(.seq #[(.str "name" 303),(.str "path" 304)] 0),#[]⟩,
⟨(.type "getset_descriptor"),none,(.fields #[(.str "__dict__" 316),(.ref 39),(.builtin "function.__dict__"),(.builtin "function.__dict__#set")]),#[]⟩,
⟨(.type "getset_descriptor"),none,(.fields #[(.str "__weakref__" 318),(.ref 39),(.builtin "ExceptionGroup.__weakref__"),.none]),#[]⟩,
⟨(.type "dict"),none,(.dict #[en P "__module__" 326 (.str "_frozen_importlib_external" 322),en P "__firstlineno__" 327 (.int 1296 323),en P "__doc__" 328 (.builtin "_frozen_importlib_external.ExtensionFileLoader.__doc__:str#opaque"),en P "__init__" 329 (.builtin "_frozen_importlib_external.ExtensionFileLoader.__init__#opaque"),en P "__eq__" 330 (.builtin "_frozen_importlib_external.ExtensionFileLoader.__eq__#opaque"),en P "__hash__" 331 (.builtin "_frozen_importlib_external.ExtensionFileLoader.__hash__#opaque"),en P "create_module" 332 (.builtin "_frozen_importlib_external.ExtensionFileLoader.create_module#opaque"),en P "exec_module" 333 (.builtin "_frozen_importlib_external.ExtensionFileLoader.exec_module#opaque"),en P "is_package" 334 (.builtin "_frozen_importlib_external.ExtensionFileLoader.is_package#opaque"),en P "get_code" 335 (.builtin "_frozen_importlib_external.ExtensionFileLoader.get_code#opaque"),en P "get_source" 336 (.builtin "_frozen_importlib_external.ExtensionFileLoader.get_source#opaque"),en P "get_filename" 337 (.builtin "_frozen_importlib_external.ExtensionFileLoader.get_filename#opaque"),en P "__static_attributes__" 338 (.ref 45)] 13),#[]⟩,
⟨(.type "type"),none,(.cls ⟨"ExtensionFileLoader", [(.ref 39),(.ref 34)],[(.ref 44),(.ref 39),(.ref 34),(.type "object")],43, "ExtensionFileLoader", true,[],[],false,none,false⟩),#[]⟩,
⟨(.type "tuple"),none,(.seq #[(.str "name" 324),(.str "path" 325)] 0),#[]⟩,
⟨(.ref 44),(some 32),.plain,#[]⟩,
⟨(.type "list"),none,(.seq #[] 0),#[]⟩,
⟨(.type "dict"),none,(.dict #[en P "name" 341 (.str "_heapq" 340),en P "loader" 342 (.ref 46),en P "origin" 343 (.str "/nix/store/wj1f56qky4pmjc7l0r6b6l7whnnw7hp6-python3-3.13.15/lib/python3.13/lib-dynload/_heapq.cpython-313-x86_64-linux-gnu.so" 280),en P "loader_state" 344 .none,en P "submodule_search_locations" 345 .none,en P "_uninitialized_submodules" 346 (.ref 47),en P "_set_fileattr" 347 (.bool true),en P "_cached" 348 .none,en P "_initializing" 349 (.bool false)] 9),#[]⟩,
⟨(.ref 23),(some 48),.plain,#[]⟩]
noncomputable def hNew:List Obj:=[
⟨(.type "tuple"),none,(.seq #[] 0),#[]⟩,
⟨.none,none,(.fields #[]),#[]⟩,
⟨(.type "code"),none,(.fields #[(.str "<module>" 384),(.str "<module>" 385),(.str "/claim/cut.py" 386),(.int 1 0),(.int 0 0),(.int 0 0),(.int 0 0),(.int 0 0),(.ref 50),(.bool false),(.int 383 0),(.ref 51),.none,.none,.none,.none,(.int 387 0),(.int 1 0),(.str "/claim/cut.py" 388)]),#[]⟩,
⟨(.type "frame"),none,.plain,#[(some (.ref 52)),(some (.ref 3)),(some (.ref 3)),none,(some (.str "__main__" 164)),none,(some (.ref 0))]⟩]
noncomputable def evn:List Obj→List Obj | []=>[] | [x]=>[x] | x::_::l=>x::evn l
noncomputable def mkT:Nat→List Obj→BT | 0,_=>.nil | _,[]=>.nil | n+1,x::l=>.node x (mkT n (evn l)) (mkT n (evn l.tail))
noncomputable def hH (P:Params):Heap:=⟨(hOld P).toArray,{}⟩
noncomputable def hST (P:Params) (os:OsState):SharedT:=⟨mkT 8 (hOld P++hNew),54,{},#[],{},389,os⟩
theorem h_pre (w:World) (os:OsState):topGo treeTable pw w 50 (some (.ref 6)) 12 ⟨hH w.params,#[],{},383,os⟩ (topStub pw)=some ((hST w.params os).abs,⟨denote treeTable hCode,hCode,p0,hB⟩):=by
 rw [PySem.W.Fast.te15667345088766844465,PySem.W.Fast.te14364793385576792824,PySem.W.Fast.te11892475500146522536]
 kernel_rfl
theorem h_block (w:World) (os:OsState):segRun treeTable pw w 50 (some (.ref 6)) 1 1 (hST w.params os).abs (blockOf hBody hEnv hCode p0 hB)=some (.next,(hST w.params os).abs,hCode,p0):=by
 kernel_rfl
end Hd
end
section
namespace Hd
noncomputable def zST (os:OsState):SharedT:=⟨mkT 8 (start (opening pw)).1.heap.objs.toList,(start (opening pw)).1.heap.objs.size,(start (opening pw)).1.heap.life,(start (opening pw)).1.gens,(start (opening pw)).1.drawn,(start (opening pw)).1.toks,os⟩
theorem z_abs:(zST (start (opening pw)).1.os).abs=(start (opening pw)).1:=by
 kernel_rfl
theorem h_imp (w:World) (os:OsState):(impGoT treeTable (opening pw) w 1403 (zST os) (start (opening pw)).2).map (fun x=>(x.2.atExitBegin,fenceModules? pw x.1.abs))=some (some [],some ⟨hH w.params,#[],{},383,os⟩):=by
 unfold zST
 rw [PySem.W.Fast.te1435165496053646825,PySem.W.Fast.te14789777615569096658,PySem.W.Fast.te14289696077712309145,PySem.W.Fast.te14364793385576792824]
 kernel_rfl
end Hd
end
section
namespace Hd
noncomputable def hKeep:List Nat:=[0,1,2,3,4,6,8,9,10,11,12,13,14,15,17,19,21,23,25,27,28,29,30,31,34,35,37,39,41,42,43,44,45,46,47,48,49,50,51,52,53,55,57,58,59,60,61,62]
noncomputable abbrev hq:Program:=view pw hKeep
noncomputable def hLoose:List Str:=["Iterable", "Sized", "Container", "Collection", "Set", "Mapping", "MappingView", "KeysView", "ItemsView", "ValuesView", "MutableMapping", "Cache", "_TimedCache", "TTLCache", "TLRUCache"]
noncomputable abbrev hAs:List Addr:=[2,3,90,91,123,124,200,201,230,231,266,267,289,290,477,478,729,730,741,742,748,749,762,763,769,770,776,777,783,784,790,791,804,805,806,812,813,814,820,821,822,828,829,842,843,844,850,851,852,858,859,861,863,864,865,866,867,873,890,891,897,898,904,905,911,912,925,926,927,928,929,930,931,934,940,941,950,956,957,958,964,965,966,972,973,974,980,981,987,988,994,995,1003,1009,1010,1011,1012,1013,1021,1022,1037,1038,1044,1045,1058,1059,1060,1062,1063,1064,1065,1066,1067,1070,1076,1077,1083,1084,1085,1091,1092,1093,1099,1100,1101,1107,1108,1128,1129,1130,1131,1137,1138,1144,1145,1153,1154,1155,1263,1264,1270,1271,1277,1278,1279,1281,1282,1283,1284,1285,1289,1295,1296,1302,1303,1304,1310,1311,1312,1318,1319,1320,1326,1327,1340,1341,1342,1343,1347,1348,1354,1355,1363,1369,1370,1371,1372,1373,1379,1380,1384,1385,1389,1390,1396,1397,1401,1402,1406,1407]
noncomputable abbrev hXt:Shared→Bool:=fun s=>xlAt hq [] s
noncomputable abbrev hRun (w:World) (os:OsState):Option (Flow × SharedT × Code × Pos):=segRunT treeTable pw w 50 (some (.ref 6)) 1 12753 (hST w.params os) (piecesOf hBody hEnv hCode p0 hB)
theorem h_c1 (w:World) (os:OsState):(hRun w os).map
  (fun x=>((openSeen hq hLoose (importedModules pw.main.body) hXt true x.2.1.abs).1,(openSeen hq hLoose (importedModules pw.main.body) hXt true x.2.1.abs).2.1)) =
  some (expectedOf hq,bltViewBooted):=by
 unfold hRun piecesOf
 rw [PySem.W.Fast.te10110043849684766642,PySem.W.Fast.te14364793385576792824,PySem.W.Fast.te12563942051412417395,PySem.W.Fast.te5923862056798008813,PySem.W.Fast.te4187177175401517315]
 kernel_rfl
theorem h_c2 (w:World) (os:OsState):(hRun w os).map
  (fun x=>((openSeen hq hLoose (importedModules pw.main.body) hXt true x.2.1.abs).2.2.1,(openSeen hq hLoose (importedModules pw.main.body) hXt true x.2.1.abs).2.2.2.1)) =
  some (true,true):=by
 unfold hRun piecesOf
 rw [PySem.W.Fast.te10110043849684766642,PySem.W.Fast.te14364793385576792824,PySem.W.Fast.te12563942051412417395,PySem.W.Fast.te5923862056798008813,PySem.W.Fast.te4187177175401517315]
 kernel_rfl
theorem h_c3 (w:World) (os:OsState):(hRun w os).map
  (fun x=>(x.1,x.2.2.1,x.2.2.2,x.2.1.n,(openSeen hq hLoose (importedModules pw.main.body) hXt true x.2.1.abs).2.2.2.2.1,(openSeen hq hLoose (importedModules pw.main.body) hXt true x.2.1.abs).2.2.2.2.2.1,(openSeen hq hLoose (importedModules pw.main.body) hXt true x.2.1.abs).2.2.2.2.2.2.1,(openSeen hq hLoose (importedModules pw.main.body) hXt true x.2.1.abs).2.2.2.2.2.2.2.1,(openSeen hq hLoose (importedModules pw.main.body) hXt true x.2.1.abs).2.2.2.2.2.2.2.2,(staticsOk (importedModules pw.main.body) (hH w.params) x.2.1.abs.heap && namesBound pw x.2.1.abs.heap && gensDone x.2.1.abs && laidKept (hH w.params) x.2.1.abs.heap),hAs.map fun a=>alive ((x.2.1.tree.get a).getD default))) =
  some (.next,hCode,pf,1408,pinGoodD (drecsOf hq),plainGoodE hq (looseW hq hLoose),plainGoodD hq hLoose,wideGood hq,clsGoodW hq (looseW hq hLoose),true,(K w.params).map fun p=>some p.2):=by
 unfold hRun piecesOf
 rw [PySem.W.Fast.te10110043849684766642,PySem.W.Fast.te14364793385576792824,PySem.W.Fast.te12563942051412417395,PySem.W.Fast.te5923862056798008813,PySem.W.Fast.te4187177175401517315]
 kernel_rfl
end Hd
end
section
namespace Hd
theorem abs_getD {t:BT}{n:Nat}{life:Life}{a:Nat} (h:a<n):(absHeap t n life).get? a=alive ((t.get a).getD default):=by
 unfold Heap.get?
 rw [absHeap_at,if_pos h]
 generalize (t.get a).getD default=o
 obtain ⟨c,d,dt,sl⟩:=o
 cases dt <;> rfl
theorem h_size (P:Params):(((hH P).isNs mainGlobals && (#[] : Array GenState).size == 0),(hH P).objs.size,(hH P).nsMap mainGlobals "__annotations__")=(true,50,some (.ref 6)):=by
 kernel_rfl
theorem h_fin (w:World) (s:Shared):topRun treeTable pw w 50 (some (.ref 6)) 2 s ⟨doneF .next,hCode,pf,hB⟩=some s:=by
 kernel_rfl
theorem h_open (w:World):fencedOpening treeTable pw w 20000=some ⟨hH w.params,#[],{},383,(start (opening pw)).1.os⟩:=by
 obtain ⟨⟨S,t⟩,h1,h2⟩:=Option.map_eq_some_iff.mp (h_imp w (start (opening pw)).1.os)
 obtain ⟨e1,e2⟩:=Prod.mk.inj h2
 have h3:=impGo_of h1
 rw [z_abs] at h3
 have h4:importEnds treeTable (opening pw) w 1 S.abs t=some S.abs:=by
  unfold importEnds
  rw [show t.atExitBegin=some [] from e1]
 have h6:=importEnds_mono 18596 _ _ _ _ (imp_go h3 h4)
 unfold fencedOpening
 rw [show (20000:Nat)=1403+1+18596 from rfl,h6]
 exact e2
theorem h_good:openGood hq hLoose=(expectedOf hq,bltViewBooted,true,true,pinGoodD (drecsOf hq),plainGoodE hq (looseW hq hLoose),plainGoodD hq hLoose,wideGood hq,clsGoodW hq (looseW hq hLoose)):=by
 unfold openGood
 rfl
theorem topFrom_of {tb:String→Option Builtin}{p:Program}{w:World}{N:Nat}{s₀ s₁:Shared}{m:Nat}{ann:Option Value} (g:((s₀.heap.isNs mainGlobals && s₀.gens.size == 0),s₀.heap.objs.size,s₀.heap.nsMap mainGlobals "__annotations__")=(true,m,ann))
  (r:topRun tb p w m ann N s₀ (topStub p)=some s₁)
  (st:(staticsOk (importedModules p.main.body) s₀.heap s₁.heap && namesBound p s₁.heap && gensDone s₁ && laidKept s₀.heap s₁.heap)=true):topFrom tb p w N s₀=some s₁:=by
 simp only [Prod.mk.injEq] at g
 obtain ⟨g1,g2,g3⟩:=g
 unfold topFrom
 rw [g1,g2,g3,r]
 show (match (staticsOk (importedModules p.main.body) s₀.heap s₁.heap && namesBound p s₁.heap && gensDone s₁ && laidKept s₀.heap s₁.heap) with | true=>some s₁ | false=>none)=_
 rw [st]
theorem openEnds_of {tb:String→Option Builtin}{p:Program}{w:World}{N:Nat}{s₀ s₁:Shared} {α:Type}{F:Shared→α}{b:α} (o:fencedOpening tb p w N=some s₀) (t:topFrom tb p w N s₀=some s₁) (e:F s₁=b):(openEnds tb p w N).map F=some b:=by
 unfold openEnds
 rw [o]
 show (topFrom tb p w N s₀).map F=_
 rw [t]
 exact congrArg some e
theorem h_run {w:World}{os:OsState}{S:SharedT} (r:hRun w os=some (.next,S,hCode,pf)):topRun treeTable pw w 50 (some (.ref 6)) 20000 ⟨hH w.params,#[],{},383,os⟩ (topStub pw)=some S.abs:=by
 have a:=piece_app (rest:=[]) (segRun_of r) (piece_nil (h_fin w S.abs))
 rw [List.append_nil] at a
 exact topRun_mono 7232 _ _ _ _ (go_top (h_pre w os) (piece_block (h_block w os) a))
theorem h_looks {w:World}{os:OsState}{S:SharedT} (r:hRun w os=some (.next,S,hCode,pf))
  (a4:(openSeen hq hLoose (importedModules pw.main.body) hXt true S.abs).2.2.2.2.1=pinGoodD (drecsOf hq)) (a5:(openSeen hq hLoose (importedModules pw.main.body) hXt true S.abs).2.2.2.2.2.1=plainGoodE hq (looseW hq hLoose))
  (a6:(openSeen hq hLoose (importedModules pw.main.body) hXt true S.abs).2.2.2.2.2.2.1=plainGoodD hq hLoose) (a7:(openSeen hq hLoose (importedModules pw.main.body) hXt true S.abs).2.2.2.2.2.2.2.1=wideGood hq)
  (a8:(openSeen hq hLoose (importedModules pw.main.body) hXt true S.abs).2.2.2.2.2.2.2.2=clsGoodW hq (looseW hq hLoose)):openSeen hq hLoose (importedModules pw.main.body) hXt true S.abs=openGood hq hLoose:=by
 obtain ⟨x2,r2,e2⟩:=Option.map_eq_some_iff.mp (h_c2 w os)
 obtain ⟨x1,r1,e1⟩:=Option.map_eq_some_iff.mp (h_c1 w os)
 obtain rfl:=Option.some.inj (r.symm.trans r1)
 obtain rfl:=Option.some.inj (r.symm.trans r2)
 obtain ⟨b1,b2⟩:=Prod.mk.inj e1
 obtain ⟨b3,b4⟩:=Prod.mk.inj e2
 rw [h_good]
 revert b1 b2 b3 b4 a4 a5 a6 a7 a8
 dsimp only
 generalize openSeen hq hLoose (importedModules pw.main.body) hXt true S.abs=X
 intro a4 a5 a6 a7 a8 b1 b2 b3 b4
 exact Prod.ext b1 (Prod.ext b2 (Prod.ext b3 (Prod.ext b4 (Prod.ext a4 (Prod.ext a5 (Prod.ext a6 (Prod.ext a7 a8)))))))
theorem h_left:LeftO pw hq hLoose hXt (fun s=>hAs.map s.heap.get?) (fun w=>(K w.params).map fun p=>some p.2) 20000:=fun w=>by
 obtain ⟨⟨f,S,c,pos⟩,r,e⟩:=Option.map_eq_some_iff.mp (h_c3 w (start (opening pw)).1.os)
 simp only [Prod.mk.injEq] at e
 obtain ⟨rfl,rfl,rfl,hn,a4,a5,a6,a7,a8,hst,hK⟩:=e
 refine openEnds_of (h_open w) (topFrom_of (h_size w.params) (h_run r) hst) (Prod.ext (h_looks r a4 a5 a6 a7 a8) ?_)
 show hAs.map S.abs.heap.get? = (K w.params).map fun p=>some p.2
 rw [← hK]
 refine List.map_congr_left fun a ha=>?_
 have hl:∀ a∈hAs,a<1408:=by decide +kernel
 exact abs_getD (by rw [hn]; exact hl a ha)
end Hd
end
section
namespace Hd
theorem h_said:OpenLaw.wellSaid PySem.Challenge.rw_ki0008_02=true:=by
 rw [PySem.W.Fast.te9446332074065402090]
 kernel_rfl
theorem h_ex:∃ d:DefRec,defOf hq PySem.Challenge.rw_ki0008_02.row.name=some (d,[])∧(recsOf hq).find? (fun e=>e.name == Str.ofString "law")=some d ∧
  PySem.Challenge.rw_ki0008_02.row.prog.theDef PySem.Challenge.rw_ki0008_02.row.name=some (d.params,d.body,d.scope)∧d.name=Str.ofString "law" ∧ kwWritten? d.params.kwonlyargs d.params.kw_defaults=some []:=by
 have h:((recsOf hq).find? (fun e=>e.name == Str.ofString "law")).isSome=true:=by kernel_rfl
 refine ⟨((recsOf hq).find? (fun e=>e.name == Str.ofString "law")).get h,?_,?_,?_,?_,?_⟩
 ·kernel_rfl
 ·kernel_rfl
 ·kernel_rfl
 ·kernel_rfl
 ·kernel_rfl
theorem h_bare:PySem.Challenge.rw_ki0008_02.row.prog.bare :=
 ⟨rfl,rfl,rfl,rfl,rfl,by decide +kernel⟩
end Hd
end
section

noncomputable abbrev pw:=PySem.Challenge.pw_ki0008_02
noncomputable abbrev Cell:=Addr × (Obj→Prop)

set_option genInjectivity false in
structure Cx where
 w:World
 h₀:Heap
 mg:Str→Option Value
 mb:Str→Option Value
 k:List (Addr × Obj)
 os:OsState
noncomputable abbrev Cx.P (c:Cx):Params:=c.w.params
noncomputable abbrev Cx.M (c:Cx):Model:=model pw c.w

structure Cx.Ok (c:Cx):Prop where
 K:(Mine.K c.P).In c.h₀
 g:c.h₀.Ns mainGlobals c.mg
 b:c.h₀.Ns builtinsNs c.mb
 lim:c.h₀.NoLimit
 bi:∀ x:Str,x ≠ "__name__" → c.mb x=bootBuiltins x
 kn:∀ p∈c.k,c.h₀.get? p.1=none
 kd:(c.k.map (·.1)).Nodup

structure St (c:Cx) (L:List Cell) (s:Shared):Prop where
 ok:c.Ok
 base:∀ b o,c.h₀.get? b=some o→s.heap.get? b=some o
 cells:∀ p∈L,∃ o,s.heap.get? p.1=some o∧p.2 o
 apart:∀ p∈L,c.h₀.get? p.1=none
 nodup:(L.map (·.1)).Nodup
 gens:s.gens = #[]
 low:∀ p∈L,c.h₀.objs.size≤p.1
 size:c.h₀.objs.size≤s.heap.objs.size
 kept:∀ p∈c.k,s.heap.get? p.1=some p.2
 apK:∀ p∈L,p.1 ∉ c.k.map (·.1)
 os:s.os=c.os

theorem St.K {c L s} (S:St c L s):(Mine.K c.P).In s.heap:=S.ok.K.keeps S.base
theorem St.g {c L s} (S:St c L s):s.heap.Ns mainGlobals c.mg:=S.ok.g.keeps S.base
theorem St.b {c L s} (S:St c L s):s.heap.Ns builtinsNs c.mb:=S.ok.b.keeps S.base
theorem St.lim {c L s} (S:St c L s):s.heap.NoLimit:=S.ok.lim.keeps S.base

theorem St.get {c L s a P} (S:St c L s) (hm:(a,P)∈L):∃ o,s.heap.get? a=some o∧P o:=S.cells _ hm
theorem St.toks {c L h g d t os t' d'} (S:St c L ⟨h,g,d,t,os⟩):St c L ⟨h,g,d',t',os⟩:=⟨S.ok,S.base,S.cells,S.apart,S.nodup,S.gens,S.low,S.size,S.kept,S.apK,S.os⟩
theorem St.like {c L s s'} (S:St c L s) (hh:s'.heap=s.heap) (hg:s'.gens=s.gens) (ho:autoParam (s'.os=s.os) aR):St c L s' :=
 ⟨S.ok,fun b o e=>hh ▸ S.base b o e,fun p hp=>hh ▸ S.cells p hp,S.apart,S.nodup,hg.trans S.gens,S.low,hh ▸ S.size,fun p hp=>hh ▸ S.kept p hp,S.apK,ho.trans S.os⟩

inductive Rep (a:Addr) (P P':Obj→Prop):List Cell→List Cell→Prop
 | here {L}:Rep a P P' ((a,P)::L) ((a,P')::L)
 | there {p L L'}:Rep a P P' L L'→Rep a P P' (p::L) (p::L')
theorem Rep.mem {a P P' L L'} (r:Rep a P P' L L'):(a,P)∈L:=by
 induction r with
 | here=>exact .head _
 | there _ ih=>exact .tail _ ih
theorem Rep.keys {a P P' L L'} (r:Rep a P P' L L'):L'.map (·.1)=L.map (·.1):=by
 induction r with
 | here=>rfl
 | there _ ih=>simp only [List.map_cons,ih]
theorem Rep.cases {a P P' L L'} (r:Rep a P P' L L') (hn:(L.map (·.1)).Nodup):∀ p∈L',(p=(a,P'))∨(p∈L∧p.1≠a):=by
 induction r with
 | here =>
  intro p hp
  rcases List.mem_cons.mp hp with rfl | hp
  ·exact .inl rfl
  ·refine .inr ⟨.tail _ hp,fun e=>?_⟩
   rw [List.map_cons,List.nodup_cons] at hn
   exact hn.1 (List.mem_map.mpr ⟨p,hp,e⟩)
 | @there q L L' r ih =>
  intro p hp
  rw [List.map_cons,List.nodup_cons] at hn
  rcases List.mem_cons.mp hp with rfl | hp
  ·refine .inr ⟨.head _,fun e=>hn.1 ?_⟩
   rw [e]; exact List.mem_map_of_mem r.mem
  ·rcases ih hn.2 p hp with h | ⟨h,h'⟩
   ·exact .inl h
   ·exact .inr ⟨.tail _ h,h'⟩

theorem St.change {c L L' s s' a P P'} (S:St c L s) (r:Rep a P P' L L') (hs:Heap.SameBut a s.heap s'.heap) (ho:∃ o,s'.heap.get? a=some o∧P' o) (hg:s'.gens=s.gens) (hos:autoParam (s'.os=s.os) aR):St c L' s':=by
 have ha:=S.apart _ r.mem
 have mine:=r.cases S.nodup
 refine ⟨S.ok,fun b o e=>(hs.2 b fun z=>?_).trans (S.base b o e),fun p hp=>?_,fun p hp=>?_,by rw [r.keys]; exact S.nodup,hg.trans S.gens,fun p hp=>?_,hs.1 ▸ S.size,fun p hp=>(hs.2 p.1 fun z=>S.apK _ r.mem (z ▸ List.mem_map_of_mem hp)).trans (S.kept p hp),fun p hp=>?_,hos.trans S.os⟩
 ·subst z; rw [ha] at e; cases e
 ·rcases mine p hp with rfl | ⟨h,h'⟩
  ·exact ho
  ·obtain ⟨o,e,q⟩:=S.cells p h
   exact ⟨o,(hs.2 _ h').trans e,q⟩
 ·rcases mine p hp with rfl | ⟨h,_⟩
  ·exact ha
  ·exact S.apart p h
 ·rcases mine p hp with rfl | ⟨h,_⟩
  ·exact (S.low _ r.mem:c.h₀.objs.size≤(a,P).1)
  ·exact S.low p h
 ·rcases mine p hp with rfl | ⟨h,_⟩
  ·exact (S.apK _ r.mem:(a,P).1 ∉ _)
  ·exact S.apK p h

theorem St.fresh {c L s} (S:St c L s):c.h₀.get? s.heap.objs.size=none:=by
 cases q:c.h₀.get? s.heap.objs.size with
 | none=>rfl
 | some o=>exact absurd (Heap.lt_size (S.base _ _ q)) (Nat.lt_irrefl _)
theorem St.lt {c L s p} (S:St c L s) (hp:p∈L):p.1<s.heap.objs.size:=by
 obtain ⟨o,e,_⟩:=S.cells p hp
 exact Heap.lt_size e
theorem Cx.Ok.big {c:Cx} (h:c.Ok):3<c.h₀.objs.size:=by
 obtain ⟨o,es,ep,e,_⟩:=h.g
 exact Heap.lt_size e
theorem St.grow {c L s s' P o} (S:St c L s) (hs:Heap.SameBut s.heap.objs.size (s.heap.push o) s'.heap) (ho:∃ o',s'.heap.get? s.heap.objs.size=some o'∧P o') (hg:s'.gens=s.gens) (hos:autoParam (s'.os=s.os) aR) :
  St c ((s.heap.objs.size,P)::L) s':=by
 refine ⟨S.ok,fun b o' e=>(hs.2 b (Nat.ne_of_lt (Heap.lt_size (S.base _ _ e)))).trans (Heap.get?_push_of_some _ (S.base _ _ e)),fun p hp=>?_,fun p hp=>?_,?_,hg.trans S.gens,fun p hp=>?_,by rw [hs.1,Heap.size_push]; exact Nat.le_succ_of_le S.size,fun p hp=>(hs.2 _ (Nat.ne_of_lt (Heap.lt_size (S.kept p hp)))).trans (Heap.get?_push_of_some _ (S.kept p hp)),fun p hp=>?_,hos.trans S.os⟩
 ·rcases List.mem_cons.mp hp with rfl | hp
  ·exact ho
  ·obtain ⟨o',e,q⟩:=S.cells p hp
   exact ⟨o',(hs.2 _ (Nat.ne_of_lt (S.lt hp))).trans (Heap.get?_push_of_some _ e),q⟩
 ·rcases List.mem_cons.mp hp with rfl | hp
  ·exact S.fresh
  ·exact S.apart p hp
 ·rw [List.map_cons,List.nodup_cons]
  refine ⟨fun hm=>?_,S.nodup⟩
  obtain ⟨p,hp,e⟩:=List.mem_map.mp hm
  exact Nat.ne_of_lt (S.lt hp) e
 ·rcases List.mem_cons.mp hp with rfl | hp
  ·exact S.size
  ·exact S.low p hp
 ·rcases List.mem_cons.mp hp with rfl | hp
  ·intro hm
   obtain ⟨q,hq,e⟩:=List.mem_map.mp hm
   exact Nat.ne_of_lt (Heap.lt_size (S.kept q hq)) e
  ·exact S.apK p hp
theorem St.push {c L s} (S:St c L s) (o:Obj) (hf:o.isFreed=false) {P:Obj→Prop} (hP:P o) {t d os} (hos:autoParam (os=s.os) aR):St c ((s.heap.objs.size,P)::L) ⟨s.heap.push o,s.gens,d,t,os⟩ :=
 S.grow (s':=⟨s.heap.push o,s.gens,d,t,os⟩) ⟨rfl,fun _ _=>rfl⟩ ⟨o,Heap.get?_push_size _ hf,hP⟩ rfl hos
theorem St.drop {c p L s} (S:St c (p::L) s):St c L s :=
 ⟨S.ok,S.base,fun q hq=>S.cells q (.tail _ hq),fun q hq=>S.apart q (.tail _ hq),(List.nodup_cons.mp (List.map_cons ▸ S.nodup)).2,S.gens,fun q hq=>S.low q (.tail _ hq),S.size,S.kept,fun q hq=>S.apK q (.tail _ hq),S.os⟩
theorem St.perm {c L L' s} (S:St c L s) (p:L'.Perm L):St c L' s :=
 ⟨S.ok,S.base,fun q hq=>S.cells q (p.subset hq),fun q hq=>S.apart q (p.subset hq),(p.map _).nodup_iff.mpr S.nodup,S.gens,fun q hq=>S.low q (p.subset hq),S.size,S.kept,fun q hq=>S.apK q (p.subset hq),S.os⟩

noncomputable def NsP (m:Str→Option Value) (o:Obj):Prop:=∃ es ep,o.data=.dict es ep∧StrKeys es∧∀ name,nsFind es name=m name
theorem nsP_of {h:Heap}{a m} (x:h.Ns a m):∃ o,h.get? a=some o∧NsP m o:=by
 obtain ⟨o,es,ep,e,h1,h2,h3⟩:=x
 exact ⟨o,e,es,ep,h1,h2,h3⟩
end
section

noncomputable def envF (f:Addr) (fd:FuncData) (L:Addr):Env :=
 { scope:=fd.scope,locals:=L,globals:=fd.globals,cells:=fd.closure,qual:=fd.qualname ++ ".<locals>.", func:=some f,code:=fd.code,frame:=some L,builtins:=fd.builtins }

section
variable {c:Cx}{L L':List Cell}{s:Shared}{A:Around}{E:Value→Shared→Prop}{R:Result→Shared→Prop}

noncomputable def Back (R:Result→Shared→Prop) (f:Flow) (s:Shared):Prop:=R (.ok (.ret (match f with | .ret v=>v | _=>.none))) s
noncomputable def Fly (c:Cx) (A:Around) (env:Env) (R:Result→Shared→Prop) (e:Value) (s:Shared):Prop :=
 wpAny c.M (A.deeper env) (leaving env e) (fun _ s''=>R (.error e) s'') (fun e' s''=>R (.error e') s'') s

noncomputable def fnAt (K:Frag) (f:Addr):Option FuncData:=match K.lookup f with
 | some ⟨.type _,none,.func fd,_⟩=>some fd
 | _=>none
theorem fnAt_get {K:Frag}{f:Addr}{fd:FuncData} (e:fnAt K f=some fd):∃ o,K.lookup f=some o∧o.data=.func fd:=by
 unfold fnAt at e
 split at e
 ·rename_i q; cases e; exact ⟨_,q,rfl⟩
 ·cases e

theorem r_fn {f:Addr} (fd:FuncData) {body:List Stmt}{args:Args} (binds:List (Str × Value)) (S:St c L s)
  (hK:fnAt (Mine.K c.P) f=some fd) (hroom:A.depth<recursionLimit)
  (hc:codeIn (Mine.K c.P) fd.code fd.qualname=true) (hb:peek (Mine.K c.P) ⟨pw,c.P⟩ (bindArgs fd args)=some binds)
  (hbody:fd.body=.stmts body) (hco:fd.scope.isCoroutine=false) (hgen:fd.scope.isGenerator=false) (hk:fd.scope.kind=.function)
  (hcell:(fd.scope.names.all fun x=>x.2 != .cell)=true) (hloc:(binds.all fun x=>decide (fd.scope.names.lookup x.1=some .local))=true)
  (h:∀ s',St c ((s.heap.objs.size,NsP fun x=>binds.reverse.lookup x)::L) s' →
   wpAny c.M (A.deeper (envF f fd s.heap.objs.size)) (execs body (envF f fd s.heap.objs.size)) (Back R) (Fly c A (envF f fd s.heap.objs.size) R) s') :
  codeAny c.M A (.call (.ref f) args) R s:=by
 obtain ⟨o,hK,hd⟩:=fnAt_get hK
 refine codeAny_call_function hroom (S.K _ _ hK) hd hco hgen hbody (codeRec_of S.K hc) ?_
 refine (Looks.of_peek S.K hb).here ?_
 refine wpAny_newFunctionEnv (fun x hx e=>?_) (locs hloc) (fun h' hn hs=>?_) hk
 ·have:=List.all_eq_true.mp hcell x hx
  rw [e] at this; cases this
 ·have S':St c ((s.heap.objs.size,NsP fun x=>binds.reverse.lookup x)::L) ⟨h',s.gens,s.drawn,s.toks+binds.length,s.os⟩ :=
   S.grow (s':=⟨h',s.gens,s.drawn,s.toks+binds.length,s.os⟩) hs (nsP_of hn) rfl
  exact ⟨S'.lim,codeAny_func (h _ S')⟩

theorem r_global {env:Env}{x:Str}{pos:Pos}{v:Value}{Q:Value→Shared→Prop} (S:St c L s) (hk:env.scope.kind=.function) (hx:env.kindOf x=some .globalImplicit) (hg:env.globals=mainGlobals)
  (hv:nsIn (Mine.K c.P) mainGlobals x=some (some v)) (hd:(x == ("__debug__" : Str))=false) (h:Q v s):wpAny c.M A (eval (.Name x pos) env) Q E s :=
 Name_function_global hk hx (loadGlobal_global (by rw [hg]; exact S.g) (mg_of S.K S.g hv) h) hd
theorem r_builtin {env:Env}{x:Str}{pos:Pos}{v:Value}{Q:Value→Shared→Prop} (S:St c L s) (hk:env.scope.kind=.function) (hx:env.kindOf x=some .globalImplicit) (hg:env.globals=mainGlobals) (hb:env.builtins=builtinsNs)
  (hv:nsIn (Mine.K c.P) mainGlobals x=some none) (hv':bootBuiltins x=some v) (hn:x ≠ "__name__") (hd:(x == ("__debug__" : Str))=false) (h:Q v s):wpAny c.M A (eval (.Name x pos) env) Q E s :=
 Name_function_global hk hx (loadGlobal_builtin (by rw [hg]; exact S.g) (mg_none_of S.K S.g hv) (by rw [hb]; exact S.b) ((S.ok.bi x hn).trans hv') h) hd

noncomputable def InstP (C dx:Addr) (o:Obj):Prop:=o=instObj C dx
theorem lookIn_of {m:Str→Option Value}{o:Obj}{name:Str} (h:NsP m o):lookIn name o=some (m name):=by
 obtain ⟨es,ep,h1,h2,h3⟩:=h
 have:=h3 name
 unfold lookIn
 rw [h1]
 dsimp only
 unfold nsFind findBy at this
 rw [← Array.find?_toList] at this
 cases q:es.toList.find? (fun x=>x.key.isStr name) with
 | some e=>rw [q] at this; rw [← this]; rfl
 | none =>
  rw [q] at this
  rw [← this]
  have no:es.toList.any (·.refKey)=false:=by
   rw [List.any_eq_false]
   intro e he
   obtain ⟨n,t,hk⟩:=h2 e (Array.mem_toList_iff.mp he)
   simp [DictEntry.refKey,hk]
  simp [no]
end
end
section
noncomputable def N:List Str:=[Str.ofString "__debug__", Str.ofString "self", Str.ofString "maxsize", Str.ofString "getsizeof", Str.ofString "_Cache__data", Str.ofString "_Cache__currsize", Str.ofString "_Cache__maxsize", Str.ofString "_Cache__size", Str.ofString "ValueError", Str.ofString "Cache", Str.ofString "__init__", Str.ofString "key", Str.ofString "KeyError", Str.ofString "__missing__", Str.ofString "__getitem__", Str.ofString "value", Str.ofString "data", Str.ofString "size", Str.ofString "itemsize", Str.ofString "diffsize", Str.ofString "popitem", Str.ofString "__setitem__", Str.ofString "pop", Str.ofString "__delitem__", Str.ofString "len", Str.ofString "__len__", Str.ofString "default", Str.ofString "get", Str.ofString "_Cache__marker", Str.ofString "setdefault", Str.ofString "timer", Str.ofString "_Timer__timer", Str.ofString "_Timer__nesting", Str.ofString "_Timer__time", Str.ofString "__call__", Str.ofString "time", Str.ofString "__enter__", Str.ofString "exc", Str.ofString "__exit__", Str.ofString "_TimedCache__timer", Str.ofString "_Timer", Str.ofString "_TimedCache", Str.ofString "cache_len", Str.ofString "expire", Str.ofString "property", Str.ofString "args", Str.ofString "kwargs", Str.ofString "expires", Str.ofString "next", Str.ofString "prev", Str.ofString "unlink", Str.ofString "ttl", Str.ofString "monotonic", Str.ofString "_TTLCache__root", Str.ofString "root", Str.ofString "_TTLCache__links", Str.ofString "_TTLCache__ttl", Str.ofString "_Link", Str.ofString "TTLCache", Str.ofString "link", Str.ofString "__contains__", Str.ofString "cache_getitem", Str.ofString "links", Str.ofString "cache_setitem", Str.ofString "cache_delitem", Str.ofString "curr", Str.ofString "expired", Str.ofString "append", Str.ofString "StopIteration", Str.ofString "iter", Str.ofString "__name__", Str.ofString "type", Str.ofString "removed", Str.ofString "other", Str.ofString "__lt__", Str.ofString "ttu", Str.ofString "_TLRUCache__items", Str.ofString "_TLRUCache__order", Str.ofString "_TLRUCache__ttu", Str.ofString "item", Str.ofString "items", Str.ofString "_Item", Str.ofString "heappush", Str.ofString "TLRUCache", Str.ofString "_TLRUCache__delitem", Str.ofString "order", Str.ofString "_TLRUCache__HEAP_CLEANUP_FACTOR", Str.ofString "heapify", Str.ofString "heappop", Str.ofString "rows", Str.ofString "row", Str.ofString "_law_row", Str.ofString "_law_without", Str.ofString "cache", Str.ofString "deed", Str.ofString "sorted", Str.ofString "told", Str.ofString "_law_deed", Str.ofString "living", Str.ofString "room", Str.ofString "now", Str.ofString "last", Str.ofString "_law_put", Str.ofString "held", Str.ofString "answer", Str.ofString "_law_due", Str.ofString "script", Str.ofString "_law_clock", Str.ofString "_law_until", Str.ofString "numbers", Str.ofString "step", Str.ofString "plain", Str.ofString "n", Str.ofString "looked", Str.ofString "due", Str.ofString "law", Str.ofString "__getattribute__", Str.ofString "__setattr__", Str.ofString "__get__"]
theorem ix0:N[0]? = some (Str.ofString "__debug__"):=rfl
theorem ix1:N[1]? = some (Str.ofString "self"):=rfl
theorem ix2:N[2]? = some (Str.ofString "maxsize"):=rfl
theorem ix3:N[3]? = some (Str.ofString "getsizeof"):=rfl
theorem ix4:N[4]? = some (Str.ofString "_Cache__data"):=rfl
theorem ix5:N[5]? = some (Str.ofString "_Cache__currsize"):=rfl
theorem ix6:N[6]? = some (Str.ofString "_Cache__maxsize"):=rfl
theorem ix7:N[7]? = some (Str.ofString "_Cache__size"):=rfl
theorem ix8:N[8]? = some (Str.ofString "ValueError"):=rfl
theorem ix9:N[9]? = some (Str.ofString "Cache"):=rfl
theorem ix11:N[11]? = some (Str.ofString "key"):=rfl
theorem ix12:N[12]? = some (Str.ofString "KeyError"):=rfl
theorem ix15:N[15]? = some (Str.ofString "value"):=rfl
theorem ix16:N[16]? = some (Str.ofString "data"):=rfl
theorem ix17:N[17]? = some (Str.ofString "size"):=rfl
theorem ix20:N[20]? = some (Str.ofString "popitem"):=rfl
theorem ix22:N[22]? = some (Str.ofString "pop"):=rfl
theorem ix24:N[24]? = some (Str.ofString "len"):=rfl
theorem ix26:N[26]? = some (Str.ofString "default"):=rfl
theorem ix27:N[27]? = some (Str.ofString "get"):=rfl
theorem ix28:N[28]? = some (Str.ofString "_Cache__marker"):=rfl
theorem ix29:N[29]? = some (Str.ofString "setdefault"):=rfl
theorem ix30:N[30]? = some (Str.ofString "timer"):=rfl
theorem ix31:N[31]? = some (Str.ofString "_Timer__timer"):=rfl
theorem ix32:N[32]? = some (Str.ofString "_Timer__nesting"):=rfl
theorem ix33:N[33]? = some (Str.ofString "_Timer__time"):=rfl
theorem ix35:N[35]? = some (Str.ofString "time"):=rfl
theorem ix39:N[39]? = some (Str.ofString "_TimedCache__timer"):=rfl
theorem ix41:N[41]? = some (Str.ofString "_TimedCache"):=rfl
theorem ix42:N[42]? = some (Str.ofString "cache_len"):=rfl
theorem ix43:N[43]? = some (Str.ofString "expire"):=rfl
theorem ix45:N[45]? = some (Str.ofString "args"):=rfl
theorem ix46:N[46]? = some (Str.ofString "kwargs"):=rfl
theorem ix47:N[47]? = some (Str.ofString "expires"):=rfl
theorem ix48:N[48]? = some (Str.ofString "next"):=rfl
theorem ix49:N[49]? = some (Str.ofString "prev"):=rfl
theorem ix50:N[50]? = some (Str.ofString "unlink"):=rfl
theorem ix51:N[51]? = some (Str.ofString "ttl"):=rfl
theorem ix53:N[53]? = some (Str.ofString "_TTLCache__root"):=rfl
theorem ix54:N[54]? = some (Str.ofString "root"):=rfl
theorem ix55:N[55]? = some (Str.ofString "_TTLCache__links"):=rfl
theorem ix56:N[56]? = some (Str.ofString "_TTLCache__ttl"):=rfl
theorem ix58:N[58]? = some (Str.ofString "TTLCache"):=rfl
theorem ix59:N[59]? = some (Str.ofString "link"):=rfl
theorem ix61:N[61]? = some (Str.ofString "cache_getitem"):=rfl
theorem ix62:N[62]? = some (Str.ofString "links"):=rfl
theorem ix63:N[63]? = some (Str.ofString "cache_setitem"):=rfl
theorem ix64:N[64]? = some (Str.ofString "cache_delitem"):=rfl
theorem ix65:N[65]? = some (Str.ofString "curr"):=rfl
theorem ix66:N[66]? = some (Str.ofString "expired"):=rfl
theorem ix68:N[68]? = some (Str.ofString "StopIteration"):=rfl
theorem ix69:N[69]? = some (Str.ofString "iter"):=rfl
theorem ix71:N[71]? = some (Str.ofString "type"):=rfl
theorem ix72:N[72]? = some (Str.ofString "removed"):=rfl
theorem ix73:N[73]? = some (Str.ofString "other"):=rfl
theorem ix75:N[75]? = some (Str.ofString "ttu"):=rfl
theorem ix76:N[76]? = some (Str.ofString "_TLRUCache__items"):=rfl
theorem ix77:N[77]? = some (Str.ofString "_TLRUCache__order"):=rfl
theorem ix78:N[78]? = some (Str.ofString "_TLRUCache__ttu"):=rfl
theorem ix79:N[79]? = some (Str.ofString "item"):=rfl
theorem ix80:N[80]? = some (Str.ofString "items"):=rfl
theorem ix82:N[82]? = some (Str.ofString "heappush"):=rfl
theorem ix83:N[83]? = some (Str.ofString "TLRUCache"):=rfl
theorem ix84:N[84]? = some (Str.ofString "_TLRUCache__delitem"):=rfl
theorem ix85:N[85]? = some (Str.ofString "order"):=rfl
theorem ix86:N[86]? = some (Str.ofString "_TLRUCache__HEAP_CLEANUP_FACTOR"):=rfl
theorem ix87:N[87]? = some (Str.ofString "heapify"):=rfl
theorem ix88:N[88]? = some (Str.ofString "heappop"):=rfl
theorem ix89:N[89]? = some (Str.ofString "rows"):=rfl
theorem ix90:N[90]? = some (Str.ofString "row"):=rfl
theorem ix91:N[91]? = some (Str.ofString "_law_row"):=rfl
theorem ix92:N[92]? = some (Str.ofString "_law_without"):=rfl
theorem ix93:N[93]? = some (Str.ofString "cache"):=rfl
theorem ix94:N[94]? = some (Str.ofString "deed"):=rfl
theorem ix95:N[95]? = some (Str.ofString "sorted"):=rfl
theorem ix96:N[96]? = some (Str.ofString "told"):=rfl
theorem ix97:N[97]? = some (Str.ofString "_law_deed"):=rfl
theorem ix98:N[98]? = some (Str.ofString "living"):=rfl
theorem ix99:N[99]? = some (Str.ofString "room"):=rfl
theorem ix100:N[100]? = some (Str.ofString "now"):=rfl
theorem ix101:N[101]? = some (Str.ofString "last"):=rfl
theorem ix102:N[102]? = some (Str.ofString "_law_put"):=rfl
theorem ix103:N[103]? = some (Str.ofString "held"):=rfl
theorem ix104:N[104]? = some (Str.ofString "answer"):=rfl
theorem ix105:N[105]? = some (Str.ofString "_law_due"):=rfl
theorem ix106:N[106]? = some (Str.ofString "script"):=rfl
theorem ix107:N[107]? = some (Str.ofString "_law_clock"):=rfl
theorem ix108:N[108]? = some (Str.ofString "_law_until"):=rfl
theorem ix109:N[109]? = some (Str.ofString "numbers"):=rfl
theorem ix110:N[110]? = some (Str.ofString "step"):=rfl
theorem ix111:N[111]? = some (Str.ofString "plain"):=rfl
theorem ix112:N[112]? = some (Str.ofString "n"):=rfl
theorem ix113:N[113]? = some (Str.ofString "looked"):=rfl
theorem ix114:N[114]? = some (Str.ofString "due"):=rfl
theorem N_nodup:N.Nodup:=by
 have h:(N.map fun x=>x.cps.toList.foldl (fun h b=>h*256+b) 1).Nodup:=by decide +kernel
 exact List.Pairwise.of_map (fun x=>x.cps.toList.foldl (fun h b=>h*256+b) 1) (fun a b h e=>h (e ▸ rfl)) h
theorem N_inj {i j:Nat}{x y:Str} (hi:N[i]? = some x) (hj:N[j]? = some y):(x=y)↔i=j:=by
 obtain ⟨a,rfl⟩:=List.getElem?_eq_some_iff.mp hi
 obtain ⟨b,rfl⟩:=List.getElem?_eq_some_iff.mp hj
 exact ⟨fun e=>(List.getElem_inj N_nodup).mp e,fun e=>by subst e; rfl⟩
end
section

noncomputable def Nm (l:List (Nat × Value)) (o:Obj):Prop:=∃ m,NsP m o∧∀ k x,N[k]? = some x→m x=l.lookup k
noncomputable def upd (k:Nat) (v:Value):List (Nat × Value)→List (Nat × Value)
 | []=>[(k,v)]
 | (j,w)::l=>if j=k then (j,v)::l else (j,w)::upd k v l
theorem upd_lookup {k:Nat}{v:Value}:∀ {l:List (Nat × Value)}{j:Nat},(upd k v l).lookup j=if j=k then some v else l.lookup j
 | [],j=>by
  unfold upd
  by_cases h:j=k
  ·simp [List.lookup,h]
  ·have:(j == k)=false:=by simpa using h
   simp [List.lookup,h,this]
 | (i,w)::l,j=>by
  unfold upd
  by_cases hi:i=k
  ·subst hi
   rw [if_pos rfl]
   by_cases h:j=i
   ·simp [List.lookup,h]
   ·have:(j == i)=false:=by simpa using h
    simp [List.lookup,h,this]
  ·rw [if_neg hi]
   by_cases h:j=i
   ·subst h; simp [List.lookup,hi]
   ·have:(j == i)=false:=by simpa using h
    simp only [List.lookup,this]
    exact upd_lookup
theorem Nm.cong {l l':List (Nat × Value)}{o:Obj} (h:Nm l o) (e:∀ k,l'.lookup k=l.lookup k):Nm l' o:=by
 obtain ⟨m,h1,h2⟩:=h
 exact ⟨m,h1,fun k x hk=>(h2 k x hk).trans (e k).symm⟩
theorem Nm.set {k:Nat}{x:Str}{v:Value}{l l':List (Nat × Value)}{m:Str→Option Value}{o:Obj} (hx:N[k]? = some x) (hm:∀ k x,N[k]? = some x→m x=l.lookup k)
  (hl:∀ j,l'.lookup j=if j=k then some v else l.lookup j) (h:NsP (fun y=>if y=x then some v else m y) o):Nm l' o:=by
 refine ⟨_,h,fun j y hy=>?_⟩
 rw [hl]
 by_cases e:j=k
 ·rw [if_pos e,if_pos ((N_inj hy hx).mpr e)]
 ·rw [if_neg e,if_neg (fun z=>e ((N_inj hy hx).mp z))]; exact hm j y hy

noncomputable abbrev nmv (k:Nat):Str:=(N[k]?).getD ⟨#[]⟩
theorem nmv_ok {k:Nat} (h:k<N.length):N[k]? = some (nmv k):=by
 unfold nmv; rw [List.getElem?_eq_getElem h]; rfl
theorem lookup_names {β:Type}{l:List (Nat × β)} (hl:l.all (fun p=>decide (p.1<N.length))=true) {k:Nat}{x:Str} (hx:N[k]? = some x) :
  (l.map fun p=>(nmv p.1,p.2)).lookup x=l.lookup k:=by
 induction l with
 | nil=>rfl
 | cons p l ih =>
  rw [List.all_cons,Bool.and_eq_true] at hl
  have hp:=nmv_ok (of_decide_eq_true hl.1)
  simp only [List.map_cons,List.lookup]
  by_cases e:k=p.1
  ·have:=(N_inj hx hp).mpr e
   rw [this,e]
   simp
  ·have h1:(x == nmv p.1)=false:=by
    rw [beq_eq_false_iff_ne]; exact fun z=>e ((N_inj hx hp).mp z)
   have h2:(k == p.1)=false:=by simpa using e
   rw [h1,h2]; exact ih hl.2

structure Fn (f:Addr) (fd:FuncData) (tbl:List (Nat × NameKind)):Prop where
 at_:∀ P,fnAt (Mine.K P) f=some fd
 code:∀ P,codeIn (Mine.K P) fd.code fd.qualname=true
 co:fd.scope.isCoroutine=false
 gen:fd.scope.isGenerator=false
 kind:fd.scope.kind=.function
 glob:fd.globals=mainGlobals
 bi:fd.builtins=builtinsNs
 names:fd.scope.names=tbl.map fun p=>(nmv p.1,p.2)
 small:tbl.all (fun p=>decide (p.1<N.length))=true
 nocell:(fd.scope.names.all fun x=>x.2 != .cell)=true

section
variable {c:Cx}{L L':List Cell}{s:Shared}{A:Around}{E:Value→Shared→Prop}{R:Result→Shared→Prop}{f fr:Addr}{fd:FuncData}{tbl:List (Nat × NameKind)}{Z:Flow→Shared→Prop}

theorem Fn.kindOf (F:Fn f fd tbl) {k:Nat}{x:Str}{nk:NameKind} (hx:N[k]? = some x) (hk:tbl.lookup k=some nk):(envF f fd fr).kindOf x=some nk:=by
 show fd.scope.names.lookup x=_
 rw [F.names,lookup_names F.small hx,hk]

theorem f_call {args:Args}{body:List Stmt} (F:Fn f fd tbl) (binds:List (Nat × Value)) (S:St c L s) (hroom:A.depth<recursionLimit) (hbody:fd.body=.stmts body)
  (hb:peek (Mine.K c.P) ⟨pw,c.P⟩ (bindArgs fd args)=some (binds.map fun p=>(nmv p.1,p.2)))
  (hloc:(binds.all fun p=>decide (p.1<N.length) && decide (tbl.lookup p.1=some .local))=true)
  (h:∀ fr s',St c ((fr,Nm binds.reverse)::L) s'→wpAny c.M (A.deeper (envF f fd fr)) (execs body (envF f fd fr)) (Back R) (Fly c A (envF f fd fr) R) s') :
  codeAny c.M A (.call (.ref f) args) R s:=by
 refine r_fn fd (binds.map fun p=>(nmv p.1,p.2)) S (F.at_ _) hroom (F.code _) hb hbody F.co F.gen F.kind F.nocell ?_ fun s' S'=>h _ s' ?_
 ·rw [List.all_eq_true] at hloc ⊢
  intro x hx
  obtain ⟨p,hp,rfl⟩:=List.mem_map.mp hx
  have:=hloc p hp
  rw [Bool.and_eq_true] at this
  rw [F.names]
  dsimp only
  rw [lookup_names F.small (nmv_ok (of_decide_eq_true this.1))]
  exact this.2
 ·refine S'.change (.here) (Heap.SameBut.refl _ _) ?_ rfl
  obtain ⟨o,e,q⟩:=S'.get (.head _)
  refine ⟨o,e,_,q,fun k x hk=>?_⟩
  have hsm:binds.reverse.all (fun p=>decide (p.1<N.length))=true:=by
   rw [List.all_eq_true] at hloc ⊢
   intro p hp
   have:=hloc p (List.mem_reverse.mp hp)
   rw [Bool.and_eq_true] at this
   exact this.1
  rw [← List.map_reverse,lookup_names hsm hk]

theorem e_local {x:Str}{k:Nat}{pos:Pos}{l:List (Nat × Value)}{v:Value}{Q:Value→Shared→Prop} (S:St c L s) (F:Fn f fd tbl) (hm:(fr,Nm l)∈L) (hx:N[k]? = some x) (hd:k≠0) (hk:tbl.lookup k=some .local)
  (hv:l.lookup k=some v) (h:Q v s):wpAny c.M A (eval (.Name x pos) (envF f fd fr)) Q E s:=by
 obtain ⟨o,e,m,h1,h2⟩:=S.get hm
 obtain ⟨es,ep,q1,q2,q3⟩:=h1
 refine wpAny_Name (wpAny_loadName_local F.kind (F.kindOf hx hk) ⟨o,es,ep,e,q1,q2,q3⟩ ((h2 k x hx).trans hv) h) ?_
 rw [beq_eq_false_iff_ne]
 intro z
 exact hd ((N_inj hx (y := "__debug__") ix0).mp z)
theorem a_local {x:Str}{k:Nat}{l:List (Nat × Value)}{v:Value}{Q:Unit→Shared→Prop} (S:St c L s) (F:Fn f fd tbl) (hm:Rep fr (Nm l) (Nm ((k,v)::l)) L L') (hx:N[k]? = some x) (hk:tbl.lookup k=some .local)
  (h:∀ s',St c L' s'→Q () s'):wpAny c.M A (storeName (envF f fd fr) x v) Q E s:=by
 obtain ⟨o,e,m,h1,h2⟩:=S.get hm.mem
 obtain ⟨es,ep,q1,q2,q3⟩:=h1
 refine wpAny_storeName_local (F.kindOf hx hk) ⟨o,es,ep,e,q1,q2,q3⟩ (fun h' hn hs=>h _ (S.change hm hs ?_ rfl)) ?_
 ·obtain ⟨o',e',q⟩:=nsP_of hn
  refine ⟨o',e',Nm.set hx h2 (fun j=>?_) q⟩
  by_cases z:j=k
  ·simp [List.lookup,z]
  ·have:(j == k)=false:=by simpa using z
   simp [List.lookup,z,this]
 ·show (fd.scope.kind == .class || (fd.scope.kind == .module && _))=false
  rw [F.kind]; rfl
end
end
section

inductive AK
 | own | val (v:Value) | meth (f:Addr) | prop (p f:Addr) | slot (p:Addr) (i:Nat)
noncomputable def noGA (K:Frag) (C:Addr):Bool:=decide (findIn K (.ref C) "__getattr__" = some none)
noncomputable def okGA (K:Frag) (C:Addr):Bool:=decide (findIn K (.ref C) "__getattribute__" = some (some (.builtin "object.__getattribute__"))) && decide (findIn K (.ref C) "__setattr__" = some (some (.builtin "object.__setattr__"))) && plainOver K C
noncomputable def chk (K:Frag) (C:Addr) (x:Str):AK→Bool
 | .own=>hasDictIn K C && (match findIn K (.ref C) x with | some a=>noGet K a | none=>false) && decide (takerIn K C x=some none)
 | .val v=>hasDictIn K C && decide (findIn K (.ref C) x=some (some v)) && decide (specialIn K v "__get__" = some none) && handedIn v && !(copiedNames.contains x)
 | .meth f=>noGA K C && decide (findIn K (.ref C) x=some (some (.ref f))) && decide (typeIn K (.ref f)=some (.type "function"))
 | .prop p f=>noGA K C && (clsIn K C).isSome && decide (findIn K (.ref C) x=some (some (.ref p))) && decide (specialIn K (.ref p) "__get__" = some (some (.builtin "property.__get__"))) && decide (takesIn K (.ref p)=some true) &&
   (match recIn K p "property" with | some (.ref g::_)=>g == f | _=>false)
 | .slot p i=>noGA K C && (clsIn K C).isSome && decide (findIn K (.ref C) x=some (some (.ref p))) && decide (specialIn K (.ref p) "__get__" = some (some (.builtin "member_descriptor.__get__"))) && decide (takesIn K (.ref p)=some true) &&
   decide (slotIn K p C=some i) && decide (takerIn K C x=some (some (.ref p))) && decide (typeIn K (.ref p)=some (.type "member_descriptor")) && decide (i<1000)

noncomputable def Dm (l:List (Nat × Value)) (o:Obj):Prop:=∃ (es:Array DictEntry) (ep:Nat) (m:Str→Option Value),o.data=.dict es ep∧StrKeys es∧(∀ x,nsFind es x=m x)∧(∀ k x,N[k]? = some x→m x=l.lookup k)∧es.size=l.length∧l.length≤100
theorem Dm.nm {l:List (Nat × Value)}{o:Obj} (h:Dm l o):Nm l o:=by
 obtain ⟨es,ep,m,h1,h2,h3,h4,_⟩:=h
 exact ⟨m,⟨es,ep,h1,h2,h3⟩,h4⟩
structure Cls (C:Addr) (tab:List (Nat × AK)):Prop where
 ga:∀ P,okGA (Mine.K P) C=true
 all:∀ P,tab.all (fun p=>decide (p.1<N.length) && chk (Mine.K P) C (nmv p.1) p.2)=true

theorem Cls.get {C:Addr}{tab:List (Nat × AK)} (H:Cls C tab) (P:Params) {k:Nat}{x:Str}{a:AK} (hx:N[k]? = some x) (hk:tab.lookup k=some a):chk (Mine.K P) C x a=true:=by
 have h:=H.all P
 induction tab with
 | nil=>cases hk
 | cons p l ih =>
  rw [List.all_cons,Bool.and_eq_true] at h
  by_cases e:k=p.1
  ·subst e
   have e2:p.2=a:=by
    unfold List.lookup at hk
    rw [beq_self_eq_true] at hk
    exact Option.some.inj hk
   have h1:=h.1
   rw [Bool.and_eq_true] at h1
   have hn:=nmv_ok (of_decide_eq_true h1.1)
   rw [hx] at hn
   rw [Option.some.inj hn,← e2]
   exact h1.2
  ·refine ih ⟨H.ga,fun P=>?_⟩ ?_ h.2
   ·have:=H.all P
    rw [List.all_cons,Bool.and_eq_true] at this
    exact this.2
   ·have:(k == p.1)=false:=by simpa using e
    unfold List.lookup at hk
    rw [this] at hk
    exact hk

section
variable {c:Cx}{L L':List Cell}{s:Shared}{A:Around}{E:Value→Shared→Prop}{R:Result→Shared→Prop}{f fr:Addr}{fd:FuncData}{tbl:List (Nat × NameKind)}{C x dx:Addr}{tab:List (Nat × AK)}{k:Nat}{l l':List (Nat × Value)}{name:Str}{v:Value}

theorem lookIn_nm {o:Obj} (h:Nm l o) (hx:N[k]? = some name):lookIn name o=some (l.lookup k):=by
 obtain ⟨m,h1,h2⟩:=h
 rw [lookIn_of h1,h2 k name hx]

theorem g_own {ex:Bool}{Q:Value→Shared→Prop} (S:St c L s) (hx:(x,InstP C dx)∈L) (H:Cls C tab) (hd:(dx,Dm l)∈L) (hn:N[k]? = some name) (hk:tab.lookup k=some .own) (hv:l.lookup k=some v)
  (hh:handedIn v=true) (h:∀ s',St c L s'→Q v s'):wpAny c.M A (getAttr (.ref x) name ex) Q E s:=by
 have hc:=H.get c.P hn hk
 have hg:=H.ga c.P
 unfold okGA at hg
 unfold chk at hc
 simp only [Bool.and_eq_true,decide_eq_true_eq] at hc hg
 obtain ⟨⟨h1,h2⟩,_⟩:=hc
 obtain ⟨o,e,rfl⟩:=S.get hx
 obtain ⟨od,e',q⟩:=S.get hd
 cases z:findIn (Mine.K c.P) (.ref C) name with
 | none=>rw [z] at h2; cases h2
 | some a =>
  rw [z] at h2
  exact get_value S.K ⟨e,rfl,rfl,e'⟩ hg.1.1 (findObj_own h1 z h2 (by rw [lookIn_nm q.nm hn,hv])) hh (h _ (S.like rfl rfl))

theorem g_val {ex:Bool}{Q:Value→Shared→Prop} (S:St c L s) (hx:(x,InstP C dx)∈L) (H:Cls C tab) (hd:(dx,Dm l)∈L) (hn:N[k]? = some name) (hk:tab.lookup k=some (.val v)) (hv:l.lookup k=none)
  (h:∀ s',St c L s'→Q v s'):wpAny c.M A (getAttr (.ref x) name ex) Q E s:=by
 have hc:=H.get c.P hn hk
 have hg:=H.ga c.P
 unfold okGA at hg
 unfold chk at hc
 simp only [Bool.and_eq_true,decide_eq_true_eq,Bool.not_eq_true'] at hc hg
 obtain ⟨⟨⟨⟨h1,h2⟩,h3⟩,h4⟩,h5⟩:=hc
 obtain ⟨o,e,rfl⟩:=S.get hx
 obtain ⟨od,e',q⟩:=S.get hd
 exact get_value S.K ⟨e,rfl,rfl,e'⟩ hg.1.1 (findObj_cls h1 h2 h3 h4 h5 (by rw [lookIn_nm q.nm hn,hv])) h4 (h _ (S.like rfl rfl))

theorem g_meth {pl:Sem Bool}{Q:Value × List Value→Shared→Prop} (S:St c L s) (hx:(x,InstP C dx)∈L) (H:Cls C tab) (hd:(dx,Dm l)∈L) (hn:N[k]? = some name) (hk:tab.lookup k=some (.meth f)) (hv:l.lookup k=none)
  (h:Q (.ref f,[.ref x]) s):wpAny c.M A (getMethod (.ref x) name pl) Q E s:=by
 have hc:=H.get c.P hn hk
 have hg:=H.ga c.P
 unfold okGA at hg
 unfold chk noGA at hc
 simp only [Bool.and_eq_true,decide_eq_true_eq] at hc hg
 obtain ⟨⟨h1,h2⟩,h3⟩:=hc
 obtain ⟨o,e,rfl⟩:=S.get hx
 obtain ⟨od,e',q⟩:=S.get hd
 refine method_fn (od:=some od) S.K ⟨e,rfl,rfl,e'⟩ hg.1.1 h1 h2 h3 ?_ h
 unfold shadowIn
 dsimp only
 rw [lookIn_nm q.nm hn,hv]; rfl

theorem g_prop {ex:Bool}{p:Addr}{Q:Value→Shared→Prop} (S:St c L s) (hx:(x,InstP C dx)∈L) (H:Cls C tab) (hd:(dx,Dm l)∈L) (hn:N[k]? = some name) (hk:tab.lookup k=some (.prop p f))
  (h:∀ s',St c L s'→codeAny c.M A.in1 (.call (.ref f) ⟨[.ref x],[]⟩) (fun r s''=>match r with | .ok (.ret v)=>wpAny c.M A (handedOut v) Q E s'' | .ok _=>False | .error e=>wpAny c.M A (noteIf true (.ref x) (.str name s.toks) e) (fun _ s3=>E e s3) E s'') s') :
  wpAny c.M A (getAttr (.ref x) name ex) Q E s:=by
 have hc:=H.get c.P hn hk
 have hg:=H.ga c.P
 unfold okGA at hg
 unfold chk noGA at hc
 simp only [Bool.and_eq_true,decide_eq_true_eq] at hc hg
 obtain ⟨⟨⟨⟨⟨h1,h2⟩,h3⟩,h4⟩,h5⟩,h6⟩:=hc
 obtain ⟨o,e,rfl⟩:=S.get hx
 obtain ⟨od,e',q⟩:=S.get hd
 refine get_bind (od:=some od) S.K ⟨e,rfl,rfl,e'⟩ hg.1.1 (findObj_data h2 h3 h4 h5) h1 (wpAny_call ?_)
 have S':St c L ⟨s.heap,s.gens,s.drawn,s.toks+1,s.os⟩:=S.like rfl rfl
 split at h6
 ·rename_i g rest z
  rw [beq_iff_eq] at h6
  subst h6
  exact prop_get S'.K z (h _ S')
 ·cases h6

theorem put_ns {o:Obj}{es:Array DictEntry}{ep:Nat}{m:Str→Option Value}{name:Str}{hs:Int}{tk:Tok}{v:Value} (hd:o.data=.dict es ep) (hk:StrKeys es) (hm:∀ x,nsFind es x=m x) :
  ∃ es' ep',(o.putName name hs (.str name tk) v).data=.dict es' ep'∧(o.putName name hs (.str name tk) v).isFreed=false∧StrKeys es'∧(∀ x,nsFind es' x=if x=name then some v else m x)∧es'.size=if (m name).isSome then es.size else es.size+1:=by
 obtain ⟨cl,di,da,sl⟩:=o
 subst hd
 rw [Obj.putName_eq]
 unfold Obj.putNameByArray
 have some_of:∀ x,es.findIdx? (fun e=>e.key.isStr name)=x→(m name).isSome=x.isSome:=by
  intro x hx
  rw [← hm name,← hx]
  unfold nsFind findBy
  rw [Option.isSome_map,Bool.eq_iff_iff,Array.find?_isSome,Array.findIdx?_isSome,Array.any_eq_true]
  constructor
  ·rintro ⟨x,hx,hp⟩
   obtain ⟨i,hi,rfl⟩:=Array.mem_iff_getElem.mp hx
   exact ⟨i,hi,hp⟩
  ·rintro ⟨i,hi,hp⟩
   exact ⟨_,Array.getElem_mem hi,hp⟩
 cases hi:es.findIdx? (·.key.isStr name) with
 | some i =>
  rw [some_of _ hi]
  dsimp only
  rw [hi]
  refine ⟨_,_,rfl,rfl,hk.modify _ _,fun x=>?_,by simp⟩
  rw [← hm]
  exact findBy_modify (fun n v=>v.isStr n) Value.isStr_inj es name x v i hi
 | none =>
  rw [some_of _ hi]
  dsimp only
  rw [hi]
  refine ⟨_,_,rfl,rfl,hk.push _ _ _ _,fun x=>?_,by simp⟩
  rw [← hm]
  refine findBy_push (fun n v=>v.isStr n) es name x _ _ v (fun y=>?_) hi
  show (name == y)=decide (y=name)
  by_cases h:y=name
  ·simp [h]
  ·simp [h,Ne.symm h]

theorem upd_length {k:Nat}{v:Value}:∀ {l:List (Nat × Value)},(upd k v l).length=if (l.lookup k).isSome then l.length else l.length+1
 | []=>rfl
 | (j,w)::l=>by
  unfold upd
  by_cases h:j=k
  ·subst h; simp [List.lookup]
  ·have:(k == j)=false:=by simpa using fun z=>h z.symm
   rw [if_neg h,List.length_cons,upd_length]
   simp only [List.lookup,this,List.length_cons]
   split <;> rfl

theorem s_own {Q:Unit→Shared→Prop} (S:St c L s) (hx:(x,InstP C dx)∈L) (H:Cls C tab) (hd:Rep dx (Dm l) (Dm l') L L') (hn:N[k]? = some name) (hk:tab.lookup k=some .own)
  (hl:upd k v l=l') (hz:l'.length≤100) (h:∀ s',St c L' s'→Q () s'):wpAny c.M A (setAttr (.ref x) name v) Q E s:=by
 have hc:=H.get c.P hn hk
 have hg:=H.ga c.P
 unfold okGA at hg
 unfold chk at hc
 simp only [Bool.and_eq_true,decide_eq_true_eq] at hc hg
 obtain ⟨⟨h1,_⟩,h2⟩:=hc
 obtain ⟨o,e,rfl⟩:=S.get hx
 obtain ⟨od,e',es,ep,m,q1,q2,q3,q4,q5,q6⟩:=S.get hd.mem
 refine set_plain (od:=some od) S.K ⟨e,rfl,rfl,e'⟩ hg.1.2 ?_
 have S':St c L ⟨s.heap,s.gens,s.drawn,s.toks+1,s.os⟩:=S.like rfl rfl
 refine osa_open S'.K (C:=C) (ox:=instObj C dx) (od:=some od) ⟨e,rfl,rfl,e'⟩ hg.2 h2 fun b=>?_
 obtain ⟨cd,hc,hd'⟩:=any_some h1
 refine wpAny_bind (wpAny_pure (wpAny_bind (wpAny_bind (wpAny_loadPart e (wpAny_bind ((looks_clsIn S'.K hc).here ?_))))))
 rw [hd']
 refine wpAny_pure (a:=some dx) (wpAny_bind (wpAny_pure (wpAny_bind ?_)))
 unfold nsSet
 refine wpAny_bind (wpAny_bind (wpAny_askSetting (wpAny_pure (wpAny_bind (wpAny_mkText (wpAny_bind (wpAny_loadPart e' ?_)))))))
 rw [q1]
 dsimp only
 have hany:es.any (·.refKey)=false:=by
  rw [Array.any_eq_false']
  intro en he
  obtain ⟨n,t,h⟩:=q2 en he
  simp [DictEntry.refKey,h]
 rw [aRefKeyMayBeTheName_at,hany,Bool.and_false,if_neg (by decide)]
 obtain ⟨es',ep',r1,r0,r2,r3,r4⟩:=put_ns (name:=name) (hs:=PyData.keyHash c.w.params name) (tk:=s.toks+1) (v:=v) q1 q2 q3
 have D':=Heap.get?_update_self (Obj.putName name (PyData.keyHash c.w.params name) (.str name (s.toks+1)) v) e' r0
 have z:es'.size=l'.length:=by
  rw [r4,q4 k name hn,q5,← hl,upd_length]
 refine wpAny_updatePart e' ?_
 refine wpAny_bind (wpAny_lookBehind D' (by rw [r1]; exact pastItsLine_dict (by rw [z,sizeLine_eq]; lia)) ?_)
 refine wpAny_pure (h _ (S.change hd (s':=⟨_,s.gens,s.drawn,s.toks+1+1,s.os⟩) (Heap.SameBut.update ..) ⟨_,D',?_⟩ rfl))
 refine ⟨es',ep',_,r1,r2,r3,fun j y hy=>?_,z,hz⟩
 rw [← hl,upd_lookup]
 by_cases e:j=k
 ·rw [if_pos e,if_pos ((N_inj hy hn).mpr e)]
 ·rw [if_neg e,if_neg (fun z=>e ((N_inj hy hn).mp z))]; exact q4 j y hy
end
end
section
local macro_rules | `(tactic| walk_at "fn")=>`(tactic| exact ⟨fun P=>by kernel_rfl!,fun P=>by kernel_rfl!,rfl,rfl,rfl,rfl,rfl,rfl,by kernel_rfl!,by kernel_rfl!⟩)
noncomputable def tb749:List (Nat × NameKind):=[(1,.local),(2,.local),(3,.local),(8,.globalImplicit),(9,.globalImplicit)]
theorem fn749:Fn 749 Mine.fd749 tb749:=by walk_at "fn"
noncomputable def tb763:List (Nat × NameKind):=[(1,.local),(11,.local),(12,.globalImplicit)]
theorem fn763:Fn 763 Mine.fd763 tb763:=by walk_at "fn"
noncomputable def tb770:List (Nat × NameKind):=[(1,.local),(11,.local),(15,.local),(16,.local),(17,.local),(2,.local),(18,.local),(19,.local),(8,.globalImplicit)]
theorem fn770:Fn 770 Mine.fd770 tb770:=by walk_at "fn"
noncomputable def tb777:List (Nat × NameKind):=[(1,.local),(11,.local),(17,.local),(18,.local)]
theorem fn777:Fn 777 Mine.fd777 tb777:=by walk_at "fn"
noncomputable def tb805:List (Nat × NameKind):=[(1,.local),(24,.globalImplicit)]
theorem fn805:Fn 805 Mine.fd805 tb805:=by walk_at "fn"
noncomputable def tb813:List (Nat × NameKind):=[(1,.local),(11,.local),(26,.local)]
theorem fn813:Fn 813 Mine.fd813 tb813:=by walk_at "fn"
noncomputable def tb821:List (Nat × NameKind):=[(1,.local),(11,.local),(26,.local),(15,.local),(12,.globalImplicit)]
theorem fn821:Fn 821 Mine.fd821 tb821:=by walk_at "fn"
noncomputable def tb829:List (Nat × NameKind):=[(1,.local),(11,.local),(26,.local),(15,.local)]
theorem fn829:Fn 829 Mine.fd829 tb829:=by walk_at "fn"
noncomputable def tb891:List (Nat × NameKind):=[(1,.local),(30,.local)]
theorem fn891:Fn 891 Mine.fd891 tb891:=by walk_at "fn"
noncomputable def tb898:List (Nat × NameKind):=[(1,.local)]
theorem fn898:Fn 898 Mine.fd898 tb898:=by walk_at "fn"
noncomputable def tb905:List (Nat × NameKind):=[(1,.local),(35,.local)]
theorem fn905:Fn 905 Mine.fd905 tb905:=by walk_at "fn"
noncomputable def tb912:List (Nat × NameKind):=[(1,.local),(37,.local)]
theorem fn912:Fn 912 Mine.fd912 tb912:=by walk_at "fn"
noncomputable def tb941:List (Nat × NameKind):=[(1,.local),(2,.local),(30,.local),(3,.local),(9,.globalImplicit),(41,.globalImplicit)]
theorem fn941:Fn 941 Mine.fd941 tb941:=by walk_at "fn"
noncomputable def tb957:List (Nat × NameKind):=[(1,.local),(42,.local),(35,.local)]
theorem fn957:Fn 957 Mine.fd957 tb957:=by walk_at "fn"
noncomputable def tb973:List (Nat × NameKind):=[(1,.local)]
theorem fn973:Fn 973 Mine.fd973 tb973:=by walk_at "fn"
noncomputable def tb981:List (Nat × NameKind):=[(1,.local),(45,.local),(46,.local),(9,.globalImplicit)]
theorem fn981:Fn 981 Mine.fd981 tb981:=by walk_at "fn"
noncomputable def tb988:List (Nat × NameKind):=[(1,.local),(45,.local),(46,.local),(9,.globalImplicit)]
theorem fn988:Fn 988 Mine.fd988 tb988:=by walk_at "fn"
noncomputable def tb995:List (Nat × NameKind):=[(1,.local),(45,.local),(46,.local),(9,.globalImplicit)]
theorem fn995:Fn 995 Mine.fd995 tb995:=by walk_at "fn"
noncomputable def tb1045:List (Nat × NameKind):=[(1,.local),(11,.local),(47,.local)]
theorem fn1045:Fn 1045 Mine.fd1045 tb1045:=by walk_at "fn"
noncomputable def tb1059:List (Nat × NameKind):=[(1,.local),(48,.local),(49,.local)]
theorem fn1059:Fn 1059 Mine.fd1059 tb1059:=by walk_at "fn"
noncomputable def tb1077:List (Nat × NameKind):=[(1,.local),(2,.local),(51,.local),(30,.local),(3,.local),(54,.local),(41,.globalImplicit),(58,.globalImplicit)]
theorem fn1077:Fn 1077 Mine.fd1077 tb1077:=by walk_at "fn"
noncomputable def tb1084:List (Nat × NameKind):=[(1,.local),(11,.local),(59,.local),(12,.globalImplicit)]
theorem fn1084:Fn 1084 Mine.fd1084 tb1084:=by walk_at "fn"
noncomputable def tb1092:List (Nat × NameKind):=[(1,.local),(11,.local),(61,.local),(62,.local),(59,.local),(12,.globalImplicit)]
theorem fn1092:Fn 1092 Mine.fd1092 tb1092:=by walk_at "fn"
noncomputable def tb1100:List (Nat × NameKind):=[(1,.local),(11,.local),(15,.local),(63,.local),(35,.local),(47,.local),(62,.local),(59,.local),(54,.local),(49,.local),(58,.globalImplicit)]
theorem fn1100:Fn 1100 Mine.fd1100 tb1100:=by walk_at "fn"
noncomputable def tb1108:List (Nat × NameKind):=[(1,.local),(11,.local),(64,.local),(59,.local),(12,.globalImplicit)]
theorem fn1108:Fn 1108 Mine.fd1108 tb1108:=by walk_at "fn"
noncomputable def tb1138:List (Nat × NameKind):=[(1,.local),(35,.local),(54,.local),(65,.local),(62,.local),(66,.local),(64,.local),(61,.local),(48,.local),(9,.globalImplicit)]
theorem fn1138:Fn 1138 Mine.fd1138 tb1138:=by walk_at "fn"
noncomputable def tb1145:List (Nat × NameKind):=[(1,.local),(35,.local),(11,.local),(15,.local),(48,.globalImplicit),(69,.globalImplicit),(68,.globalImplicit),(12,.globalImplicit),(71,.globalImplicit),(9,.globalImplicit)]
theorem fn1145:Fn 1145 Mine.fd1145 tb1145:=by walk_at "fn"
noncomputable def tb1271:List (Nat × NameKind):=[(1,.local),(11,.local),(47,.local)]
theorem fn1271:Fn 1271 Mine.fd1271 tb1271:=by walk_at "fn"
noncomputable def tb1278:List (Nat × NameKind):=[(1,.local),(73,.local)]
theorem fn1278:Fn 1278 Mine.fd1278 tb1278:=by walk_at "fn"
noncomputable def tb1296:List (Nat × NameKind):=[(1,.local),(2,.local),(75,.local),(30,.local),(3,.local),(41,.globalImplicit)]
theorem fn1296:Fn 1296 Mine.fd1296 tb1296:=by walk_at "fn"
noncomputable def tb1303:List (Nat × NameKind):=[(1,.local),(11,.local),(79,.local),(12,.globalImplicit)]
theorem fn1303:Fn 1303 Mine.fd1303 tb1303:=by walk_at "fn"
noncomputable def tb1311:List (Nat × NameKind):=[(1,.local),(11,.local),(61,.local),(80,.local),(79,.local),(12,.globalImplicit)]
theorem fn1311:Fn 1311 Mine.fd1311 tb1311:=by walk_at "fn"
noncomputable def tb1319:List (Nat × NameKind):=[(1,.local),(11,.local),(15,.local),(63,.local),(35,.local),(47,.local),(80,.local),(79,.local),(83,.globalImplicit),(82,.globalImplicit)]
theorem fn1319:Fn 1319 Mine.fd1319 tb1319:=by walk_at "fn"
noncomputable def tb1327:List (Nat × NameKind):=[(1,.local),(11,.local),(64,.local),(35,.local),(79,.local),(12,.globalImplicit)]
theorem fn1327:Fn 1327 Mine.fd1327 tb1327:=by walk_at "fn"
noncomputable def tb1348:List (Nat × NameKind):=[(1,.local),(35,.local),(80,.local),(85,.local),(79,.local),(66,.local),(64,.local),(61,.local),(24,.globalImplicit),(87,.globalImplicit),(9,.globalImplicit),(88,.globalImplicit)]
theorem fn1348:Fn 1348 Mine.fd1348 tb1348:=by walk_at "fn"
noncomputable def tb1355:List (Nat × NameKind):=[(1,.local),(35,.local),(11,.local),(15,.local),(48,.globalImplicit),(69,.globalImplicit),(68,.globalImplicit),(12,.globalImplicit),(71,.globalImplicit),(9,.globalImplicit)]
theorem fn1355:Fn 1355 Mine.fd1355 tb1355:=by walk_at "fn"
noncomputable def tb1370:List (Nat × NameKind):=[(1,.local),(11,.local),(64,.local),(12,.globalImplicit)]
theorem fn1370:Fn 1370 Mine.fd1370 tb1370:=by walk_at "fn"
noncomputable def tb1380:List (Nat × NameKind):=[(89,.local),(11,.cell)]
-- cells: 1380
noncomputable def tb1385:List (Nat × NameKind):=[(89,.local),(11,.cell)]
-- cells: 1385
noncomputable def tb1390:List (Nat × NameKind):=[(93,.local),(94,.local),(11,.local),(15,.local),(95,.globalImplicit),(12,.globalImplicit),(8,.globalImplicit)]
theorem fn1390:Fn 1390 Mine.fd1390 tb1390:=by walk_at "fn"
noncomputable def tb1397:List (Nat × NameKind):=[(98,.local),(99,.local),(11,.local),(15,.local),(100,.local),(101,.local),(92,.globalImplicit),(24,.globalImplicit)]
theorem fn1397:Fn 1397 Mine.fd1397 tb1397:=by walk_at "fn"
noncomputable def tb1402:List (Nat × NameKind):=[(89,.local),(99,.local),(101,.local),(100,.cell),(94,.local),(11,.local),(15,.local),(98,.local),(103,.local),(104,.local),(91,.globalImplicit),(102,.globalImplicit),(95,.globalImplicit),(92,.globalImplicit)]
-- cells: 1402
noncomputable def tb1407:List (Nat × NameKind):=[(106,.local),(112,.local),(109,.local),(99,.local),(111,.local),(107,.local),(108,.local),(93,.local),(89,.local),(94,.local),(11,.local),(15,.local),(113,.local),(114,.local),(101,.cell),(100,.cell),(110,.cell),(58,.globalImplicit),(83,.globalImplicit),(105,.globalImplicit),(97,.globalImplicit),(24,.globalImplicit)]
-- cells: 1407
noncomputable def chkG (K:Frag) (l:List (Nat × Value)):Bool:=l.all fun p=>decide (p.1<N.length) && decide (nsIn K mainGlobals (nmv p.1)=some (some p.2))
noncomputable def chkB (K:Frag) (l:List (Nat × Value)):Bool:=l.all fun p=>decide (p.1<N.length) && decide (nsIn K mainGlobals (nmv p.1)=some none) && decide (bootBuiltins (nmv p.1)=some p.2) && decide (nmv p.1 ≠ "__name__")
noncomputable def gtab:List (Nat × Value):=[(9,.ref 865),(41,.ref 1013),(58,.ref 1155),(83,.ref 1373),(91,.ref 1380),(92,.ref 1385),(97,.ref 1390),(102,.ref 1397),(105,.ref 1402),(115,.ref 1407),(87,.builtin "_heapq.heapify"),(88,.builtin "_heapq.heappop"),(82,.builtin "_heapq.heappush")]
noncomputable def btab:List (Nat × Value):=[(12,.type "KeyError"),(8,.type "ValueError"),(68,.type "StopIteration"),(71,.type "type"),(24,.builtin "len"),(69,.builtin "iter"),(48,.builtin "next"),(95,.builtin "sorted")]
theorem gtab_ok (P:Params):chkG (Mine.K P) gtab=true:=by kernel_rfl!
theorem btab_ok (P:Params):chkB (Mine.K P) btab=true:=by kernel_rfl!
noncomputable def at929:List (Nat × AK):=[(31,.own),(32,.own),(33,.own)]
theorem cls929:Cls 929 at929:=⟨fun P=>by kernel_rfl!,fun P=>by kernel_rfl!⟩
noncomputable def at1155:List (Nat × AK):=[(4,.own),(5,.own),(6,.own),(39,.own),(7,.val .none),(28,.val (.ref 741)),(13,.meth 791),(30,.prop 974 973),(53,.own),(55,.own),(56,.own),(43,.meth 1138),(20,.meth 1145),(27,.meth 981),(22,.meth 988),(29,.meth 995)]
theorem cls1155:Cls 1155 at1155:=⟨fun P=>by kernel_rfl!,fun P=>by kernel_rfl!⟩
noncomputable def at1373:List (Nat × AK):=[(4,.own),(5,.own),(6,.own),(39,.own),(7,.val .none),(28,.val (.ref 741)),(13,.meth 791),(30,.prop 974 973),(76,.own),(77,.own),(78,.own),(43,.meth 1348),(20,.meth 1355),(84,.meth 1370),(27,.meth 981),(22,.meth 988),(29,.meth 995),(86,.val (.int 2 1954))]
theorem cls1373:Cls 1373 at1373:=⟨fun P=>by kernel_rfl!,fun P=>by kernel_rfl!⟩
noncomputable def at1063:List (Nat × AK):=[(47,.slot 1064 0),(11,.slot 1065 1),(48,.slot 1066 2),(49,.slot 1067 3),(50,.meth 1059)]
theorem cls1063:Cls 1063 at1063:=⟨fun P=>by kernel_rfl!,fun P=>by kernel_rfl!⟩
noncomputable def at1282:List (Nat × AK):=[(47,.slot 1283 0),(11,.slot 1284 1),(72,.slot 1285 2)]
theorem cls1282:Cls 1282 at1282:=⟨fun P=>by kernel_rfl!,fun P=>by kernel_rfl!⟩
end
section

noncomputable def Br (b:Bool) (P Q:Prop):Prop:=(b=true→P)∧(b=false→Q)
theorem Br.t {P Q:Prop} (h:P):Br true P Q:=⟨fun _=>h,fun e=>nomatch e⟩
theorem Br.f {P Q:Prop} (h:Q):Br false P Q:=⟨(nomatch ·),fun _=>h⟩
theorem Br.ite {b:Bool}{P Q:Prop} (h:Br b P Q):if b=true then P else Q:=by
 cases b
 ·exact h.2 rfl
 ·exact h.1 rfl

theorem tab_get {α:Type}{l:List (Nat × α)}{p:Nat × α→Bool} (h:l.all p=true) {k:Nat}{v:α} (hk:l.lookup k=some v):p (k,v)=true:=by
 induction l with
 | nil=>cases hk
 | cons q l ih =>
  rw [List.all_cons,Bool.and_eq_true] at h
  by_cases e:k=q.1
  ·subst e
   unfold List.lookup at hk
   rw [beq_self_eq_true] at hk
   rw [← Option.some.inj hk]; exact h.1
  ·have:(k == q.1)=false:=by simpa using e
   unfold List.lookup at hk
   rw [this] at hk
   exact ih h.2 hk

section
variable {c:Cx}{L L':List Cell}{s:Shared}{A:Around}{E:Value→Shared→Prop}{R:Result→Shared→Prop}{f fr:Addr}{fd:FuncData}{tbl:List (Nat × NameKind)}{C x dx:Addr}{tab:List (Nat × AK)}{k:Nat}{l l':List (Nat × Value)}{name:Str}{v:Value}{env:Env}

theorem name_of (hx:N[k]? = some name) (h:k<N.length):name=nmv k:=Option.some.inj (hx.symm.trans (nmv_ok h))
theorem e_global {pos:Pos}{Q:Value→Shared→Prop} (S:St c L s) (F:Fn f fd tbl) (hx:N[k]? = some name) (hd:k≠0) (hk:tbl.lookup k=some .globalImplicit) (hg:gtab.lookup k=some v)
  (h:Q v s):wpAny c.M A (eval (.Name name pos) (envF f fd fr)) Q E s:=by
 have H:=tab_get (gtab_ok c.P) hg
 simp only [Bool.and_eq_true,decide_eq_true_eq] at H
 obtain ⟨h1,h2⟩:=H
 refine r_global S F.kind (F.kindOf hx hk) F.glob (by rw [name_of hx h1]; exact h2) ?_ h
 rw [beq_eq_false_iff_ne]
 intro z
 exact hd ((N_inj hx (y := "__debug__") ix0).mp z)
theorem e_builtin {pos:Pos}{Q:Value→Shared→Prop} (S:St c L s) (F:Fn f fd tbl) (hx:N[k]? = some name) (hd:k≠0) (hk:tbl.lookup k=some .globalImplicit) (hg:btab.lookup k=some v)
  (h:Q v s):wpAny c.M A (eval (.Name name pos) (envF f fd fr)) Q E s:=by
 have H:=tab_get (btab_ok c.P) hg
 simp only [Bool.and_eq_true,decide_eq_true_eq] at H
 obtain ⟨⟨⟨h1,h2⟩,h3⟩,h4⟩:=H
 refine r_builtin S F.kind (F.kindOf hx hk) F.glob F.bi (by rw [name_of hx h1]; exact h2) (by rw [name_of hx h1]; exact h3) (by rw [name_of hx h1]; exact h4) ?_ h
 rw [beq_eq_false_iff_ne]
 intro z
 exact hd ((N_inj hx (y := "__debug__") ix0).mp z)

theorem x_if {test:Expr}{body orelse:List Stmt}{pos:Pos}{Q:Flow→Shared→Prop}
  (h:wpAny c.M A (PySem.isTrue test env (eval test env)) (fun b s₂=>Br b (wpAny c.M A (execs body env) Q E s₂) (wpAny c.M A (execs orelse env) Q E s₂)) E s) :
  wpAny c.M A (exec (.If test body orelse pos) env) Q E s :=
 wpAny_If (wpAny_mono h (fun _ _ h=>h.ite) (fun _ _ h=>h))

theorem x_int {i:Int}{n:Nat}{pos:Pos}{Q:Value→Shared→Prop} (S:St c L s) (h:∀ tk s',St c L s'→Q (.int i tk) s'):wpAny c.M A (eval (.Constant (.int i) n pos) env) Q E s :=
 wpAny_Constant_int (h _ _ (S.like rfl rfl))
theorem x_str {i:Str}{n:Nat}{pos:Pos}{Q:Value→Shared→Prop} (S:St c L s) (h:∀ tk s',St c L s'→Q (.str i tk) s'):wpAny c.M A (eval (.Constant (.str i) n pos) env) Q E s :=
 Constant_str (h _ _ (S.like rfl rfl))
theorem x_addi {a b:Int}{t u:Tok}{Q:Value→Shared→Prop} (S:St c L s) (h:∀ tk s',St c L s'→Q (.int (a+b) tk) s'):wpAny c.M A (binaryOp .Add (.int a t) (.int b u)) Q E s :=
 wpAny_add_int (h _ _ (S.like rfl rfl))
end
end
section

section
variable {c:Cx}{L L':List Cell}{s:Shared}{A:Around}{E:Value→Shared→Prop}{R:Result→Shared→Prop}{f fr:Addr}{fd:FuncData}{tbl:List (Nat × NameKind)}{C x dx:Addr}{tab:List (Nat × AK)}{k:Nat}{l l':List (Nat × Value)}{name:Str}{v:Value}{env:Env}

noncomputable def Seq (c:Cx) (A:Around) (env:Env) (rest:List Stmt) (Q:Flow→Shared→Prop) (E:Value→Shared→Prop) (f:Flow) (s:Shared):Prop :=
 match f with | .next=>wpAny c.M A (execs rest env) Q E s | f=>Q f s
theorem Seq.next {rest:List Stmt}{Q:Flow→Shared→Prop} (h:wpAny c.M A (execs rest env) Q E s):Seq c A env rest Q E .next s:=h
theorem Seq.ret {rest:List Stmt}{Q:Flow→Shared→Prop} (h:Q (.ret v) s):Seq c A env rest Q E (.ret v) s:=h
theorem x_cons {st:Stmt}{rest:List Stmt}{Q:Flow→Shared→Prop} (h:wpAny c.M A (exec st env) (Seq c A env rest Q E) E s):wpAny c.M A (execs (st::rest) env) Q E s :=
 wpAny_execs_cons (wpAny_mono h (fun f s' z=>by cases f <;> exact z) fun _ _ z=>z)
theorem x_nil {Q:Flow→Shared→Prop} (h:Q .next s):wpAny c.M A (execs [] env) Q E s:=wpAny_execs_nil h
theorem Back.ret (h:R (.ok (.ret v)) s):Back R (.ret v) s:=h
theorem Back.next (h:R (.ok (.ret .none)) s):Back R .next s:=h

noncomputable def Ret (Q:Value→Shared→Prop) (E:Value→Shared→Prop) (r:Result) (s:Shared):Prop:=match r with | .ok (.ret v)=>Q v s | .ok _=>False | .error e=>E e s
theorem Ret.ok {Q:Value→Shared→Prop} (h:Q v s):Ret Q E (.ok (.ret v)) s:=h
theorem x_code {g:Value}{pos:List Value}{kw:List (Str × Value)}{Q:Value→Shared→Prop} (h:codeAny c.M A (.call g ⟨pos,kw⟩) (Ret Q E) s):wpAny c.M A (call g pos kw) Q E s :=
 wpAny_call (codeAny_mono h fun r s' z=>by
  match r,z with
  | .ok (.ret v),z=>exact z
  | .error e,z=>exact z)

noncomputable def Al (c:Cx) (s:Shared):Prop:=∃ L,St c L s

noncomputable def Ev (c:Cx) (A:Around) (env:Env) (E:Value→Shared→Prop):List Expr→(List Value→Shared→Prop)→Shared→Prop
 | [],Q,s=>Q [] s
 | e::es,Q,s=>wpAny c.M A (eval e env) (fun v s₁=>Ev c A env E es (fun vs s₂=>Q (v::vs) s₂) s₁) E s
theorem Ev.nil {Q:List Value→Shared→Prop} (h:Q [] s):Ev c A env E [] Q s:=h
theorem Ev.cons {e:Expr}{es:List Expr}{Q:List Value→Shared→Prop} (h:wpAny c.M A (eval e env) (fun v s₁=>Ev c A env E es (fun vs s₂=>Q (v::vs) s₂) s₁) E s):Ev c A env E (e::es) Q s:=h
noncomputable abbrev trees (env:Env) (es:List Expr):List (Bool × Sem Value):=es.map fun e=>(false,eval e env)
theorem Ev.spliced {es:List Expr}{Q:List Value→Shared→Prop} (h:Ev c A env E es Q s):wpAny c.M A (PySem.spliced (trees env es)) Q E s:=by
 induction es generalizing Q s with
 | nil=>exact spliced_nil h
 | cons e es ih=>exact spliced_cons (wpAny_mono h (fun v s₁ h₁=>ih h₁) fun _ _ z=>z)
theorem Ev.args {g:Value}{es:List Expr}{Q:Args→Shared→Prop} (h:Ev c A env E es (fun vs s'=>Q ⟨vs,[]⟩ s') s):wpAny c.M A (evalArgs g true (trees env es) []) Q E s:=by
 cases es with
 | nil=>exact PySem.evalArgs_none h
 | cons e es=>exact evalArgs_plain (Ev.spliced h)
theorem trees_plain (es:List Expr):(trees env es).any (·.1)=false:=by
 rw [List.any_eq_false]
 intro p hp
 obtain ⟨e,_,rfl⟩:=List.mem_map.mp hp
 exact Bool.false_ne_true

noncomputable def To (c:Cx) (A:Around) (env:Env) (pos:Pos) (g:Value) (first:List Value) (es:List Expr) (Q:Value→Shared→Prop) (E:Value→Shared→Prop) (s:Shared):Prop :=
 wpAny c.M A (callWith pos g first (trees env es) []) Q E s
theorem To.K {g:Value}{first:List Value}{pos:Pos}{es:List Expr}{Q:Value→Shared→Prop} (hk:∀ P,keepIn (Mine.K P) g=true) (h:Ev c A env E es (fun vs s₁=>Al c s₁∧codeAny c.M A (.call g ⟨first++vs,[]⟩) (Ret Q E) s₁) s) :
  To c A env pos g first es Q E s:=by
 refine callWith_of (P:=(Mine.K c.P).In) (by rw [trees_plain]; rfl) (keeps_K (hk c.P)) (Ev.args ?_)
 have mono:∀ {es:List Expr}{s:Shared}{Q Q':List Value→Shared→Prop},(∀ vs s,Q vs s→Q' vs s)→Ev c A env E es Q s→Ev c A env E es Q' s:=by
  intro es
  induction es with
  | nil=>intro s Q Q' i h; exact i _ _ h
  | cons e es ih=>intro s Q Q' i h; exact wpAny_mono h (fun v s₁ h₁=>ih (fun vs s=>i _ s) h₁) fun _ _ z=>z
 refine mono (fun vs s₁ z=>?_) h
 obtain ⟨⟨L,S⟩,z⟩:=z
 exact ⟨S.K,x_code z⟩
theorem To.builtin {id:String}{first:List Value}{pos:Pos}{es:List Expr}{Q:Value→Shared→Prop} (h:Ev c A env E es (fun vs s₁=>wpAny c.M A (call (.builtin id) (first++vs)) Q E s₁) s) :
  To c A env pos (.builtin id) first es Q E s:=callWith_builtin (trees_plain es) (Ev.args h)
theorem To.type {T:String}{first:List Value}{pos:Pos}{es:List Expr}{Q:Value→Shared→Prop} (h:Ev c A env E es (fun vs s₁=>wpAny c.M A (call (.type T) (first++vs)) Q E s₁) s) :
  To c A env pos (.type T) first es Q E s:=PySem.callWith_type (trees_plain es) (Ev.args h)

theorem x_call_name {n:Str}{np pos:Pos}{es:List Expr}{Q:Value→Shared→Prop} (ht:backTo pos (starEach es env)=trees env es) (h:wpAny c.M A (eval (.Name n np) env) (fun g s₁=>To c A env pos g [] es Q E s₁) E s) :
  wpAny c.M A (eval (.Call (.Name n np) es [] pos) env) Q E s:=by
 refine wpAny_Call_ofName (wpAny_mono h (fun g s₁ z=>?_) fun _ _ z=>z)
 rw [ht]; exact z
theorem x_call_attr {o:Expr}{n:Str}{apos pos:Pos}{es:List Expr}{Q:Value→Shared→Prop} (ht:backTo pos (starEach es env)=trees env es)
  (hp:∃ pl:Sem Bool, eval (.Call (.Attribute o n apos) es [] pos) env=do
     let ov ← eval o env
     standAt (Pos.atName apos)
     let x ← holding [ov] (getMethod ov n pl)
     match x with
      | (f,first)=>callWith pos f first (backTo pos (starEach es env)) (backToKw pos (keywordEach [] env)))
  (h:∀ pl,wpAny c.M A (eval o env) (fun ov s₁=>wpAny c.M A (getMethod ov n pl) (fun fx s₂=>To c A env pos fx.1 fx.2 es Q E s₂) E s₁) E s) :
  wpAny c.M A (eval (.Call (.Attribute o n apos) es [] pos) env) Q E s:=by
 obtain ⟨pl,hp⟩:=hp
 refine methodCall_KW (wpAny_mono (h pl) (fun g s₁ z=>wpAny_mono z (fun fx s₂ z=>?_) fun _ _ z=>z) fun _ _ z=>z) hp
 rw [ht]; exact z

noncomputable def usualIn (K:Frag) (C:Addr) (n:Str):Bool:=decide (findIn K (.ref C) "__getattribute__" = some (some (.builtin "object.__getattribute__"))) && (match findIn K (.ref C) "__getattr__" with
 | some (some _)=>true
 | some none=>(match findIn K (.ref C) n with
  | some r=>r.all fun a=>(typeIn K a).any fun t=>t != .type "function" && t != .type "method_descriptor" && t != .type "wrapper_descriptor"
  | none=>false)
 | none=>false)
theorem g_usual {pl:Sem Bool}{Q:Value × List Value→Shared→Prop} (S:St c L s) (hx:(x,InstP C dx)∈L) (hd:(dx,Dm l)∈L) (hu:∀ P,usualIn (Mine.K P) C name=true)
  (h:wpAny c.M A (getAttr (.ref x) name) (fun v=>Q (v,[])) E s):wpAny c.M A (getMethod (.ref x) name pl) Q E s:=by
 have hu:=hu c.P
 unfold usualIn at hu
 rw [Bool.and_eq_true,decide_eq_true_eq] at hu
 obtain ⟨o,e,rfl⟩:=S.get hx
 obtain ⟨od,e',q⟩:=S.get hd
 have I:PySem.W.InstAt s.heap x (instObj C dx) C (some od):=⟨e,rfl,rfl,e'⟩
 obtain ⟨hga,hu⟩:=hu
 split at hu
 ·rename_i hk z
  have u:wpAny c.M A (do return (← getAttr (.ref x) name,([] : List Value))) Q E s:=wpAny_bind (wpAny_mono h (fun _ _ z=>wpAny_pure z) fun _ _ z=>z)
  have hcan:=PySem.F.canon_object_ga
  unfold getMethod specialOf
  refine wpAny_bind (wpAny_bind (I.type.here ((looks_findIn S.K hga).here ?_)))
  dsimp only
  rw [hcan,if_neg (by decide)]
  refine wpAny_bind (wpAny_bind (I.type.here ((looks_findIn S.K z).here ?_)))
  exact u
 ·rename_i z
  split at hu
  ·rename_i r z'
   exact method_usual S.K I hga z z' hu h
  ·cases hu
 ·cases hu
end
end
section

section
variable {c:Cx}{L L':List Cell}{s:Shared}{A:Around}{E:Value→Shared→Prop}{R:Result→Shared→Prop}{f fr:Addr}{fd:FuncData}{tbl:List (Nat × NameKind)}{C x dx:Addr}{tab:List (Nat × AK)}{k:Nat}{l l':List (Nat × Value)}{name:Str}{v:Value}{env:Env}

theorem f_callT {args:Args}{body:List Stmt}{t:Sem (List (Str × Value))} (F:Fn f fd tbl) (S:St c L s) (hroom:A.depth<recursionLimit) (hbody:fd.body=.stmts body) (hb:bindArgs fd args=t)
  (h:wpAny c.M A.in1 t (fun bs s₁=>∃ (binds:List (Nat × Value)) (L₁:List Cell),bs=binds.map (fun p=>(nmv p.1,p.2))∧(binds.all fun p=>decide (p.1<N.length) && decide (tbl.lookup p.1=some .local))=true∧St c L₁ s₁ ∧
   ∀ fr s',St c ((fr,Nm binds.reverse)::L₁) s'→wpAny c.M (A.deeper (envF f fd fr)) (execs body (envF f fd fr)) (Back R) (Fly c A (envF f fd fr) R) s') (fun e s'=>R (.error e) s') s) :
  codeAny c.M A (.call (.ref f) args) R s:=by
 obtain ⟨o,hK,hd⟩:=fnAt_get (F.at_ c.P)
 refine codeAny_call_function hroom (S.K _ _ hK) hd F.co F.gen hbody (codeRec_of S.K (F.code _)) ?_
 rw [hb]
 refine wpAny_mono h (fun bs s₁ z=>?_) fun _ _ z=>z
 obtain ⟨binds,L₁,rfl,hloc,S₁,h⟩:=z
 refine wpAny_newFunctionEnv (fun x hx e=>?_) ?_ (fun h' hn hs=>?_) F.kind
 ·have:=List.all_eq_true.mp F.nocell x hx
  rw [e] at this; cases this
 ·refine locs ?_
  rw [List.all_eq_true] at hloc ⊢
  intro x hx
  obtain ⟨p,hp,rfl⟩:=List.mem_map.mp hx
  have:=hloc p hp
  rw [Bool.and_eq_true] at this
  rw [F.names]
  dsimp only
  rw [lookup_names F.small (nmv_ok (of_decide_eq_true this.1))]
  exact this.2
 ·have S':=S₁.grow (s':=⟨h',s₁.gens,s₁.drawn,s₁.toks+(binds.map (fun p=>(nmv p.1,p.2))).length,s₁.os⟩) hs (nsP_of hn) rfl
  refine ⟨S'.lim,codeAny_func (h _ _ (S'.change .here (Heap.SameBut.refl _ _) ?_ rfl))⟩
  obtain ⟨o,e,q⟩:=S'.get (.head _)
  refine ⟨o,e,_,q,fun k x hk=>?_⟩
  have hsm:binds.reverse.all (fun p=>decide (p.1<N.length))=true:=by
   rw [List.all_eq_true] at hloc ⊢
   intro p hp
   have:=hloc p (List.mem_reverse.mp hp)
   rw [Bool.and_eq_true] at this
   exact this.1
  rw [← List.map_reverse,lookup_names hsm hk]

theorem Ev.mono {es:List Expr}{Q Q':List Value→Shared→Prop} (i:∀ vs s,Q vs s→Q' vs s) (h:Ev c A env E es Q s):Ev c A env E es Q' s:=by
 induction es generalizing s Q Q' with
 | nil=>exact i _ _ h
 | cons e es ih=>exact wpAny_mono h (fun v s₁ h₁=>ih (fun vs s=>i _ s) h₁) fun _ _ z=>z

noncomputable def callOk (K:Frag) (C f:Addr):Bool:=decide (findIn K (.ref C) "__call__" = some (some (.ref f))) && isFn K (.ref f) && fnIn K f
theorem To.inst {first:List Value}{pos:Pos}{es:List Expr}{Q:Value→Shared→Prop} (hc:∀ P,callOk (Mine.K P) C f=true)
  (h:Ev c A env E es (fun vs s₁=>(∃ L,St c L s₁∧(x,InstP C dx)∈L∧(dx,Dm l)∈L)∧codeAny c.M A (.call (.ref f) ⟨.ref x::(first++vs),[]⟩) (Ret Q E) s₁) s) :
  To c A env pos (.ref x) first es Q E s:=by
 have hc:=hc c.P
 unfold callOk at hc
 simp only [Bool.and_eq_true,decide_eq_true_eq] at hc
 have key:wpAny c.M A (evalArgs (.ref x) true (trees env es) []) (fun a s₁=>(∃ od,kco_P (Mine.K c.P) x C (instObj C dx) (some od) s₁.heap)∧wpAny c.M A (call (.ref x) (first++a.pos) a.kw) Q E s₁) E s:=by
  refine Ev.args (h.mono fun vs s₁ z=>?_)
  obtain ⟨⟨L,S,hx,hd⟩,z⟩:=z
  obtain ⟨o,e,rfl⟩:=S.get hx
  obtain ⟨od,e',q⟩:=S.get hd
  have I:PySem.W.InstAt s₁.heap x (instObj C dx) C (some od):=⟨e,rfl,rfl,e'⟩
  exact ⟨⟨od,S.K,I⟩,x_code (kco_code S.K I rfl hc.1.1 hc.1.2 hc.2 z)⟩
 unfold To callWith
 refine wpAny_bind (wpAny_holding (wpAny_mono key (fun a s₁ h₁=>wpAny_bind (wpAny_standAt ?_)) fun _ _ y=>y))
 obtain ⟨⟨od,h₁⟩,h₂⟩:=h₁
 have L:=kco_keeper (M:=c.M) h₁.2 rfl
 rw [trees_plain]
 refine wpAny_bind (L.here ?_)
 have tail:∀ {t:Sem Value},wpAny c.M A t Q E s₁→wpAny c.M A (t >>= fun r=>holding [r] point >>= fun _=>pure r) Q E s₁ :=
  fun ht=>wpAny_bind (wpAny_mono ht (fun r s₂ hr=>wpAny_bind (wpAny_holding (wpAny_point (wpAny_pure hr)))) fun _ _ y=>y)
 exact tail (wpAny_operateT h₂)

noncomputable def withOk (K:Frag) (C fe fx:Addr):Bool:=decide (findIn K (.ref C) "__enter__" = some (some (.ref fe))) && isFn K (.ref fe) && decide (findIn K (.ref C) "__exit__" = some (some (.ref fx))) && isFn K (.ref fx)
theorem withOk929 (P:Params):withOk (Mine.K P) 929 905 912=true:=by kernel_rfl!
noncomputable def Out (c:Cx) (A:Around) (E:Value→Shared→Prop) (tm:Addr) (Q:Flow→Shared→Prop) (f:Flow) (s:Shared):Prop :=
 codeAny c.M A (.call (.ref 912) ⟨[.ref tm,.none,.none,.none],[]⟩) (Ret (fun _ s'=>Q f s') E) s
noncomputable def No (_:Value) (_:Shared):Prop:=False
end
end
section

inductive Pick (p:Cell):List Cell→List Cell→Prop
 | here {L}:Pick p (p::L) L
 | there {q L L'}:Pick p L L'→Pick p (q::L) (q::L')
theorem Pick.perm {p L L'} (h:Pick p L L'):L.Perm (p::L'):=by
 induction h with
 | here=>exact .refl _
 | there _ ih=>exact (ih.cons _).trans (.swap _ _ _)
theorem Pick.app {p G L L'} (h:Pick p L L'):Pick p (G++L) (G++L'):=by
 induction G with
 | nil=>exact h
 | cons q G ih=>exact ih.there
theorem Pick.mem {p L L'} (h:Pick p L L'):p∈L:=h.perm.mem_iff.mpr (.head _)
theorem St.pick {c L L' s p} (S:St c L s) (h:Pick p L L'):St c (p::L') s:=S.perm h.perm.symm
theorem St.pick2 {c L L1 L2 s p q} (S:St c L s) (h1:Pick p L L1) (h2:Pick q L1 L2):St c (p::q::L2) s:=S.perm (h1.perm.trans (h2.perm.cons _)).symm
theorem St.pick3 {c L L1 L2 L3 s p q r} (S:St c L s) (h1:Pick p L L1) (h2:Pick q L1 L2) (h3:Pick r L2 L3):St c (p::q::r::L3) s :=
 S.perm ((h1.perm.trans (h2.perm.cons _)).trans ((h3.perm.cons _).cons _)).symm
theorem St.pick4 {c L L1 L2 L3 L4 s p q r t} (S:St c L s) (h1:Pick p L L1) (h2:Pick q L1 L2) (h3:Pick r L2 L3) (h4:Pick t L3 L4):St c (p::q::r::t::L4) s :=
 S.perm (((h1.perm.trans (h2.perm.cons _)).trans ((h3.perm.cons _).cons _)).trans (((h4.perm.cons _).cons _).cons _)).symm
theorem Perm.pick {p L L1 Q} (h1:Pick p L L1) (h2:Q.Perm L1):(p::Q).Perm L:=((h2.cons p).trans h1.perm.symm)
theorem St.dropAt {c L L' s p} (S:St c L s) (h:Pick p L L'):St c L' s:=(S.pick h).drop
theorem St.open1 {ι:Type}{c s a}{P:ι→Obj→Prop}{R:List Cell} (S:St c ((a,fun o=>∃ i,P i o)::R) s):∃ i,St c ((a,P i)::R) s:=by
 obtain ⟨o,e,i,q⟩:=S.get (.head _)
 exact ⟨i,S.change .here (Heap.SameBut.refl _ _) ⟨o,e,q⟩ rfl⟩
theorem St.weak {c s a L L'} {P P':Obj→Prop} (S:St c L s) (r:Rep a P P' L L') (h:∀ o,P o→P' o):St c L' s:=by
 obtain ⟨o,e,q⟩:=S.get r.mem
 exact S.change r (Heap.SameBut.refl _ _) ⟨o,e,h o q⟩ rfl
theorem St.ne {c s a b P P' R} (S:St c ((a,P)::R) s) (h:(b,P')∈R):b≠a:=by
 intro e
 have:=S.nodup
 rw [List.map_cons,List.nodup_cons] at this
 exact this.1 (List.mem_map.mpr ⟨(b,P'),h,e⟩)

section
variable {c:Cx}{L L':List Cell}{s:Shared}{A:Around}{E:Value→Shared→Prop}{R:Result→Shared→Prop}{f fr:Addr}{fd:FuncData}{tbl:List (Nat × NameKind)}{C x dx:Addr}{tab:List (Nat × AK)}{k:Nat}{l l':List (Nat × Value)}{name:Str}{v:Value}{env:Env}
theorem x_iadd {a b:Int}{t u:Tok}{Q:Value→Shared→Prop} (S:St c L s) (h:∀ tk s',St c L s'→Q (.int (a+b) tk) s'):wpAny c.M A (inplaceOp .Add (.int a t) (.int b u)) Q E s :=
 wpAny_iadd_int (h _ _ (S.like rfl rfl))
theorem x_isub {a b:Int}{t u:Tok}{Q:Value→Shared→Prop} (S:St c L s) (h:∀ tk s',St c L s'→Q (.int (a-b) tk) s'):wpAny c.M A (inplaceOp .Sub (.int a t) (.int b u)) Q E s :=
 PySem.AutoIntOps.isub_0 (h _ _ (S.like rfl rfl))

theorem depth_deeper (A:Around) (e:Env):(A.deeper e).depth=A.depth+1:=rfl
theorem depth_in1 (A:Around):A.in1.depth=A.depth:=rfl

theorem bind912 {tm:Addr}{a b d:Value}:bindArgs Mine.fd912 ⟨[.ref tm,a,b,d],[]⟩=(do let t ← newTuple [a,b,d]; pure [(nmv 1,.ref tm),(nmv 37,t)]):=by kernel_rfl!
end
end
section

inductive PickG (G:List Cell):List Cell→List Cell→Prop
 | here {L}:PickG G (G++L) L
 | there {q L L'}:PickG G L L'→PickG G (q::L) (q::L')
 | app {H L L'}:PickG G L L'→PickG G (H++L) (H++L')
theorem PickG.perm {G L L'} (h:PickG G L L'):L.Perm (G++L'):=by
 induction h with
 | here=>exact .refl _
 | there _ ih=>exact (ih.cons _).trans List.perm_middle.symm
 | @app H L L' _ ih =>
  refine (ih.append_left H).trans ?_
  rw [← List.append_assoc,← List.append_assoc]
  exact List.perm_append_comm.append_right L'
theorem St.pickG {c L L' s G} (S:St c L s) (h:PickG G L L'):St c (G++L') s:=S.perm h.perm.symm
theorem Perm.pickG {G L L1 Q} (h1:PickG G L L1) (h2:Q.Perm L1):(G++Q).Perm L:=(h2.append_left G).trans h1.perm.symm
theorem Rep.app {a P P' G L L'} (r:Rep a P P' L L'):Rep a P P' (G++L) (G++L'):=by
 induction G with
 | nil=>exact r
 | cons q G ih=>exact ih.there
theorem St.dropG {c G L s} (S:St c (G++L) s):St c L s:=by
 induction G with
 | nil=>exact S
 | cons q G ih=>exact ih S.drop

set_option genInjectivity false in
structure Ck (c:Cx) where
 clk:Addr
 step:Int
 G:Int→Int→List Cell
 fn:∀ {t m L s},St c (G t m++L) s→∃ o fd,s.heap.get? clk=some o∧o.data=.func fd
 call:∀ {t m L s A R},St c (G t m++L) s→A.depth<recursionLimit →
  (∀ tk s',St c (G (t+step) (m+1)++L) s'→R (.ok (.ret (.int (t+step) tk))) s')→codeAny c.M A (.call (.ref clk) ⟨[],[]⟩) R s

section
variable {c:Cx}{L L':List Cell}{s:Shared}{A:Around}{E:Value→Shared→Prop}{R:Result→Shared→Prop}{f fr:Addr}{fd:FuncData}{env:Env}
theorem To.func {a:Addr}{first:List Value}{pos:Pos}{es:List Expr}{Q:Value→Shared→Prop}{o:Obj}{fd:FuncData}
  (h:Ev c A env E es (fun vs s₁=>(s₁.heap.get? a=some o∧o.data=.func fd)∧codeAny c.M A (.call (.ref a) ⟨first++vs,[]⟩) (Ret Q E) s₁) s) :
  To c A env pos (.ref a) first es Q E s :=
 callWith_function (Ev.args (h.mono fun _ _ z=>⟨z.1,x_code z.2⟩))
theorem To.clock {K:Ck c}{t m:Int}{pos:Pos}{Q:Value→Shared→Prop} (S:St c L s) (hp:PickG (K.G t m) L L') (hr:A.depth<recursionLimit)
  (h:∀ tk s',St c (K.G (t+K.step) (m+1)++L') s'→Q (.int (t+K.step) tk) s'):To c A env pos (.ref K.clk) [] [] Q E s:=by
 have S':=S.pickG hp
 obtain ⟨o,fd,h1,h2⟩:=K.fn S'
 exact To.func (o:=o) (fd:=fd) (.nil ⟨⟨h1,h2⟩,K.call S' hr fun tk s' S=>h tk s' S⟩)
theorem x_assign_attr {o:Expr}{attr:Str}{pos:Pos}{v:Value}{Q:Unit→Shared→Prop} (h:wpAny c.M A (eval o env) (fun ov s₁=>wpAny c.M A (setAttr ov attr v) Q E s₁) E s) :
  wpAny c.M A (assign (.Attribute o attr pos) env v) Q E s:=by
 rw [arm_assign_Attribute]
 refine wpAny_bind (wpAny_holding (wpAny_mono h (fun ov s₁ z=>wpAny_bind (wpAny_standAt (wpAny_bind (wpAny_holding (wpAny_mono z (fun _ s₂ z=>?_) fun _ _ z=>z))))) fun _ _ z=>z))
 exact wpAny_release z
end
end
section
noncomputable def selI (is:List Nat):List Cell→List Cell:=is.foldr (fun i k L=>(L[i]?).elim L fun x=>x::k (L.eraseIdx i)) id
theorem ixk {p:Cell}{L L':List Cell} (i:Nat) (h:L[i]? = some p) (e:L.eraseIdx i=L'):Pick p L L':=by
 subst e
 induction L generalizing i with
 | nil=>cases h
 | cons x L ih =>
  cases i with
  | zero=>cases h; exact .here
  | succ i=>exact .there (ih i h)
theorem selI_perm (is:List Nat) (L:List Cell):(selI is L).Perm L:=by
 induction is generalizing L with
 | nil=>exact .refl _
 | cons i is ih =>
  show ((L[i]?).elim L fun x=>x::selI is (L.eraseIdx i)).Perm L
  cases e:L[i]? with
  | none=>exact .refl _
  | some x=>exact Perm.pick (ixk i e rfl) (ih _)
theorem ixd {L L':List Cell} (is:List Nat) (h:L'=selI is L):L'.Perm L:=h ▸ selI_perm is L
noncomputable def cat (k:Nat) (L R:List Cell):List Cell:=L.take k++R
theorem ksplit {L G R:List Cell} (k:Nat) (h:G++R=L.drop k):L.Perm (G++cat k L R):=by
 have e:L=L.take k++(G++R):=by rw [h,List.take_append_drop]
 have a:(L.take k++(G++R)).Perm (G++(L.take k++R)):=by
  rw [← List.append_assoc,← List.append_assoc]
  exact List.perm_append_comm.append_right R
 exact (List.Perm.of_eq e).trans a
theorem ixe (k k':Nat) (is:List Nat) {L L' G R R':List Cell} (h:G++R=L.drop k) (h':G++R'=L'.drop k') (e:cat k' L' R'=selI is (cat k L R)):L'.Perm L :=
 (ksplit k' h').trans (((ixd is e).append_left G).trans (ksplit k h).symm)
theorem ixm (i:Nat) {x:Cell}{L:List Cell} (h:some x=L[i]?):x∈L:=List.mem_of_getElem? h.symm
theorem ixn (k i:Nat) {x:Cell}{L G R:List Cell} (h:G++R=L.drop k) (e:some x=R[i]?):x∈L :=
 List.mem_of_mem_drop (h ▸ List.mem_append_right G (ixm i e))
theorem mem1 {a x:Cell}{L:List Cell}:x∈a::x::L:=.tail _ (.head _)
theorem mem2 {a b x:Cell}{L:List Cell}:x∈a::b::x::L:=.tail _ mem1
theorem mem3 {a b c x:Cell}{L:List Cell}:x∈a::b::c::x::L:=.tail _ mem2
theorem mem4 {a b c d x:Cell}{L:List Cell} (h:x∈L):x∈a::b::c::d::L:=.tail _ (.tail _ (.tail _ (.tail _ h)))
theorem pk1 {a p:Cell}{L:List Cell}:Pick p (a::p::L) (a::L):=.there .here
theorem pk2 {a b p:Cell}{L:List Cell}:Pick p (a::b::p::L) (a::b::L):=.there pk1
theorem pk3 {a b c p:Cell}{L:List Cell}:Pick p (a::b::c::p::L) (a::b::c::L):=.there pk2
theorem pk4 {a b c d p:Cell}{L L':List Cell} (h:Pick p L L'):Pick p (a::b::c::d::L) (a::b::c::d::L'):=.there (.there (.there (.there h)))
theorem rp1 {p:Cell}{a:Addr}{P P':Obj→Prop}{L:List Cell}:Rep a P P' (p::(a,P)::L) (p::(a,P')::L):=.there .here
theorem rp2 {p q:Cell}{a:Addr}{P P':Obj→Prop}{L:List Cell}:Rep a P P' (p::q::(a,P)::L) (p::q::(a,P')::L):=.there rp1
theorem rp3 {p q r:Cell}{a:Addr}{P P':Obj→Prop}{L:List Cell}:Rep a P P' (p::q::r::(a,P)::L) (p::q::r::(a,P')::L):=.there rp2
theorem rp4 {p q r t:Cell}{a:Addr}{P P':Obj→Prop}{L L':List Cell} (h:Rep a P P' L L'):Rep a P P' (p::q::r::t::L) (p::q::r::t::L'):=.there (.there (.there (.there h)))
end
section
noncomputable def bad {α:Type} (n:Nonempty α) (P:α→Prop):α:=@Classical.epsilon α n fun z=>¬ P z
theorem eps {α:Type} (n:Nonempty α) (P:α→Prop) (h:P (bad n P)) (v:α):P v:=Classical.byContradiction fun g=>(@Classical.epsilon_spec α (fun v=>¬ P v) ⟨v,g⟩) h
noncomputable def bad1 {a:Type} (n:Nonempty (a)) (P:a→Prop):a:=bad n fun z=>P z
theorem eps1 {a:Type} (n:Nonempty (a)) {P:a→Prop} (h:P (bad1 n P)):∀ v0,P v0:=fun v0=>eps n (fun z=>P z) h v0
noncomputable def bad2 {a b:Type} (n:Nonempty (a × b)) (P:a→b→Prop):a × b:=bad n fun z=>P z.1 z.2
theorem eps2 {a b:Type} (n:Nonempty (a × b)) {P:a→b→Prop} (h:P (bad2 n P).1 (bad2 n P).2):∀ v0 v1,P v0 v1:=fun v0 v1=>eps n (fun z=>P z.1 z.2) h (v0,v1)
noncomputable def bad5 {a b c d e:Type} (n:Nonempty (a × b × c × d × e)) (P:a→b→c→d→e→Prop):a × b × c × d × e:=bad n fun z=>P z.1 z.2.1 z.2.2.1 z.2.2.2.1 z.2.2.2.2
theorem eps5 {a b c d e:Type} (n:Nonempty (a × b × c × d × e)) {P:a→b→c→d→e→Prop} (h:P (bad5 n P).1 (bad5 n P).2.1 (bad5 n P).2.2.1 (bad5 n P).2.2.2.1 (bad5 n P).2.2.2.2):∀ v0 v1 v2 v3 v4,P v0 v1 v2 v3 v4:=fun v0 v1 v2 v3 v4=>eps n (fun z=>P z.1 z.2.1 z.2.2.1 z.2.2.2.1 z.2.2.2.2) h (v0,v1,v2,v3,v4)
noncomputable def bad9 {a b c d e f g h i:Type} (n:Nonempty (a × b × c × d × e × f × g × h × i)) (P:a→b→c→d→e→f→g→h→i→Prop):a × b × c × d × e × f × g × h × i:=bad n fun z=>P z.1 z.2.1 z.2.2.1 z.2.2.2.1 z.2.2.2.2.1 z.2.2.2.2.2.1 z.2.2.2.2.2.2.1 z.2.2.2.2.2.2.2.1 z.2.2.2.2.2.2.2.2
theorem eps9 {a b c d e f g h i:Type} (n:Nonempty (a × b × c × d × e × f × g × h × i)) {P:a→b→c→d→e→f→g→h→i→Prop} (h:P (bad9 n P).1 (bad9 n P).2.1 (bad9 n P).2.2.1 (bad9 n P).2.2.2.1 (bad9 n P).2.2.2.2.1 (bad9 n P).2.2.2.2.2.1 (bad9 n P).2.2.2.2.2.2.1 (bad9 n P).2.2.2.2.2.2.2.1 (bad9 n P).2.2.2.2.2.2.2.2):∀ v0 v1 v2 v3 v4 v5 v6 v7 v8,P v0 v1 v2 v3 v4 v5 v6 v7 v8:=fun v0 v1 v2 v3 v4 v5 v6 v7 v8=>eps n (fun z=>P z.1 z.2.1 z.2.2.1 z.2.2.2.1 z.2.2.2.2.1 z.2.2.2.2.2.1 z.2.2.2.2.2.2.1 z.2.2.2.2.2.2.2.1 z.2.2.2.2.2.2.2.2) h (v0,v1,v2,v3,v4,v5,v6,v7,v8)
theorem nePair {α β:Type} (a:Nonempty α) (b:Nonempty β):Nonempty (α × β):=a.elim fun x=>b.elim fun y=>⟨(x,y)⟩
theorem neShared:Nonempty Shared:=⟨{}⟩
theorem neAround:Nonempty Around:=⟨{}⟩
theorem neWorld:Nonempty World:=⟨⟨fun _ _=>0,{ strHash:=fun _=>0,shareClass:=fun _=>0,mergeTok:=id,idOf:=fun _=>0,idOfShared:=fun _ _=>0,followText:=fun _=>false,idOfImm:=fun _=>0 }⟩⟩
theorem neCx:Nonempty Cx:=neWorld.elim fun w=>⟨⟨w,{},fun _=>none,fun _=>none,[],{}⟩⟩
theorem noSt {c:Cx}{x:Addr}{L:List Cell}{s:Shared} (S:St c ((x,fun _=>False)::L) s):False:=by
 obtain ⟨o,_,h⟩:=S.cells _ (.head _)
 exact h
theorem neCk {c:Cx}:Nonempty (Ck c):=⟨⟨0,0,fun _ _=>[(0,fun _=>False)],fun S=>(noSt S).elim,fun S=>(noSt S).elim⟩⟩
end
set_option hygiene false in
local macro_rules | `(tactic| walk_at "ne")=>`(tactic| first | (refine nePair ?_ ?_ <;> walk_at "ne") | exact ⟨default⟩ | exact neCx | exact neCk | exact neTCfg | exact neUCfg | exact neMem | exact neShared | exact neAround | exact ⟨fun _=>default⟩ | exact ⟨fun _ _=>True⟩ | exact ⟨fun _=>True⟩ | exact ⟨fun _ _=>default⟩ | exact ⟨⟨default,default⟩⟩ | exact ⟨⟨default,default,default⟩⟩ | exact ⟨⟨default,default,default,default⟩⟩ | exact ⟨⟨default,default,default,default,default⟩⟩ | exact ⟨⟨default,default,default,default,default,default,default⟩⟩ | infer_instance)
local macro_rules | `(tactic| walk_at "e1")=>`(tactic| (refine @eps1 _ ?n ?P ((?m:∀ a,?P a) _); case n=>walk_at "ne"))
local macro_rules | `(tactic| walk_at "e2")=>`(tactic| (refine @eps2 _ _ ?n ?P ((?m:∀ a b,?P a b) _ _); case n=>walk_at "ne"))
local macro_rules | `(tactic| walk_at "e5")=>`(tactic| (refine @eps5 _ _ _ _ _ ?n ?P ((?m:∀ a b c d e,?P a b c d e) _ _ _ _ _); case n=>walk_at "ne"))
local macro_rules | `(tactic| walk_at "e9")=>`(tactic| (refine @eps9 _ _ _ _ _ _ _ _ _ ?n ?P ((?m:∀ a b c d e f g h i,?P a b c d e f g h i) _ _ _ _ _ _ _ _ _); case n=>walk_at "ne"))
set_option hygiene false in
local macro_rules | `(tactic| walk_at "m")=>`(tactic| first | with_reducible exact List.mem_cons_self | with_reducible exact mem1 | with_reducible exact mem2 | with_reducible exact mem3 | ((with_reducible refine mem4 ?_); walk_at "m") | ((with_reducible refine List.mem_cons_of_mem _ ?_); walk_at "m") | ((with_reducible refine List.mem_append_right _ ?_); walk_at "m") | exact List.mem_append_left _ ‹_› | assumption)
set_option hygiene false in
local macro_rules | `(tactic| walk_at "r")=>`(tactic| first | with_reducible exact Rep.here | with_reducible exact rp1 | with_reducible exact rp2 | with_reducible exact rp3 | ((with_reducible apply rp4); walk_at "r") | ((with_reducible apply Rep.there); walk_at "r") | ((with_reducible apply Rep.app); walk_at "r"))
set_option hygiene false in
local macro_rules | `(tactic| walk_at "c")=>`(tactic| with_reducible first | exact cls929 | exact cls1155 | exact cls1373 | exact cls1063 | exact cls1282)
set_option hygiene false in
local macro_rules | `(tactic| walk_at "i")=>`(tactic| with_reducible first | exact ix0 | exact ix1 | exact ix2 | exact ix3 | exact ix4 | exact ix5 | exact ix6 | exact ix7 | exact ix8 | exact ix9 | exact ix11 | exact ix12 | exact ix15 | exact ix16 | exact ix17 | exact ix20 | exact ix22 | exact ix24 | exact ix26 | exact ix27 | exact ix28 | exact ix29 | exact ix30 | exact ix31 | exact ix32 | exact ix33 | exact ix35 | exact ix39 | exact ix41 | exact ix42 | exact ix43 | exact ix45 | exact ix46 | exact ix47 | exact ix48 | exact ix49 | exact ix50 | exact ix51 | exact ix53 | exact ix54 | exact ix55 | exact ix56 | exact ix58 | exact ix59 | exact ix61 | exact ix62 | exact ix63 | exact ix64 | exact ix65 | exact ix66 | exact ix68 | exact ix69 | exact ix71 | exact ix72 | exact ix73 | exact ix75 | exact ix76 | exact ix77 | exact ix78 | exact ix79 | exact ix80 | exact ix82 | exact ix83 | exact ix84 | exact ix85 | exact ix86 | exact ix87 | exact ix88 | exact ix89 | exact ix90 | exact ix91 | exact ix92 | exact ix93 | exact ix94 | exact ix95 | exact ix96 | exact ix97 | exact ix98 | exact ix99 | exact ix100 | exact ix101 | exact ix102 | exact ix103 | exact ix104 | exact ix105 | exact ix106 | exact ix107 | exact ix108 | exact ix109 | exact ix110 | exact ix111 | exact ix112 | exact ix113 | exact ix114)
set_option hygiene false in
local macro_rules | `(tactic| walk_at "k")=>`(tactic| first | with_reducible exact Pick.here | with_reducible exact pk1 | with_reducible exact pk2 | with_reducible exact pk3 | ((with_reducible apply pk4); walk_at "k") | ((with_reducible apply Pick.there); walk_at "k") | ((with_reducible apply Pick.app); walk_at "k"))
set_option hygiene false in
local macro_rules | `(tactic| walk_at "K")=>`(tactic| first | with_reducible exact PickG.here | ((with_reducible apply PickG.there); walk_at "K") | ((with_reducible apply PickG.app); walk_at "K"))
set_option hygiene false in
local macro_rules | `(tactic| walk_at "D")=>`(tactic| first | exact Pick.here | ((with_reducible apply Pick.there); walk_at "D") | ((with_reducible apply Pick.app); walk_at "D"))
set_option hygiene false in
local macro_rules | `(tactic| walk_at "d")=>`(tactic| ((repeat first | with_reducible exact List.Perm.refl _ | (with_reducible refine Perm.pickG (by walk_at "K") ?_) | (refine Perm.pick (by walk_at "D") ?_)); try exact List.Perm.refl _))
set_option hygiene false in
local macro_rules | `(tactic| walk_at "nm")=>`(tactic| first
 | refine e_local ‹_› ‹_› (by walk_at "m") (by walk_at "i") (by decide) (by rfl) (by rfl) ?_
 | refine e_global ‹_› ‹_› (by walk_at "i") (by decide) (by rfl) (by rfl) ?_
 | refine e_builtin ‹_› ‹_› (by walk_at "i") (by decide) (by rfl) (by rfl) ?_)
set_option hygiene false in
local macro_rules | `(tactic| walk_at "o")=>`(tactic| first
 | (refine g_own ‹_› (by walk_at "m") (by walk_at "c") (by walk_at "m") (by walk_at "i") (by rfl) (by rfl) (by rfl) ?_; intro _ _)
 | (refine g_slot ‹_› (by walk_at "m") (by walk_at "c") (by walk_at "m") (by walk_at "i") (by rfl) (by rfl) (by rfl) ?_; intro _ _)
 | (refine g_val ‹_› (by walk_at "m") (by walk_at "c") (by walk_at "m") (by walk_at "i") (by rfl) (by rfl) ?_; intro _ _))
set_option hygiene false in
local macro_rules | `(tactic| walk_at "go")=>`(tactic| first
 | ((with_reducible show wpAny _ _ (eval (Expr.Name _ _) _) _ _ _); walk_at "nm")
 | (with_reducible first | refine x_cons ?_ | refine x_nil ?_ | refine x_if ?_ | refine wpAny_Return_some ?_ | refine wpAny_Return_none ?_ | refine Seq.next ?_ | refine Seq.ret ?_ | refine Back.ret ?_ | refine Back.next ?_ | refine Ret.ok ?_ | refine Ev.nil ?_ | refine Ev.cons ?_ | refine Br.t ?_ | refine Br.f ?_ | refine Attribute_name ?_ | refine wpAny_BinOp ?_ | refine wpAny_isTrue_Not ?_ | refine wpAny_isTrue_BoolOp ?_ | refine wpAny_Constant_none ?_ | refine wpAny_Constant_bool ?_ | refine wpAny_truthy_bool ?_)
 | ((with_reducible show wpAny _ _ (PySem.isTrue (Expr.Compare _ [_] [_] _) _ _) _ _ _); refine wpAny_isTrue_Compare1 ?_)
 | ((with_reducible show wpAny _ _ (eval (Expr.Compare _ [_] [_] _) _) _ _ _); refine wpAny_Compare1 ?_)
 | ((with_reducible show wpAny _ _ (PySem.isTrue (Expr.Name _ _) _ _) _ _ _); refine wpAny_isTrue_value ?_)
 | ((with_reducible show wpAny _ _ (PySem.isTrue (Expr.Attribute _ _ _) _ _) _ _ _); refine wpAny_isTrue_value ?_)
 | ((with_reducible show wpAny _ _ (PySem.isTrue (Expr.Call _ _ _ _) _ _) _ _ _); refine wpAny_isTrue_value ?_)
 | ((with_reducible show wpAny _ _ (exec (Stmt.Assign [Expr.Name _ _] _ _) _) _ _ _); refine wpAny_Assign_Name ?_)
 | ((with_reducible show wpAny _ _ (exec (Stmt.Assign [Expr.Attribute _ _ _] _ _) _) _ _ _); refine plainObj_wpAny_Assign_Attribute ?_)
 | ((with_reducible show wpAny _ _ (exec (Stmt.Assign [_,_] _ _) _) _ _ _); refine wpAny_Assign_two ?_)
 | (with_reducible first | refine wpAny_assign_Name ?_ | refine x_assign_attr ?_ | refine x_assign_sub ?_)
 | ((with_reducible show wpAny _ _ (exec (Stmt.Expr _ _) _) _ _ _); refine wpAny_Expr_any ?_)
 | ((with_reducible show wpAny _ _ (eval (Expr.Call (Expr.Attribute _ _ _) _ [] _) _) _ _ _); refine x_call_attr (by rfl) ⟨_,by rfl⟩ ?_; intro _)
 | ((with_reducible show wpAny _ _ (eval (Expr.Call (Expr.Name _ _) _ [] _) _) _ _ _); refine x_call_name (by rfl) ?_)
 | with_reducible refine wpAny_AugAssign_AttributeAny ?_
 | ((with_reducible show wpAny _ _ (storeName _ _ _) _ _ _); refine a_local ‹_› ‹_› (by walk_at "r") (by walk_at "i") (by rfl) ?_; intro _ _)
 | ((with_reducible refine x_int ‹_› ?_); intro _ _ _)
 | ((with_reducible refine x_str ‹_› ?_); intro _ _ _)
 | ((with_reducible refine x_addi ‹_› ?_); intro _ _ _)
 | ((with_reducible refine x_iadd ‹_› ?_); intro _ _ _)
 | ((with_reducible refine x_isub ‹_› ?_); intro _ _ _)
 | ((with_reducible show wpAny _ _ (getAttr (Value.ref _) _ _) _ _ _); walk_at "o")
 | ((with_reducible show wpAny _ _ (compareOp CmpOp.Eq (Value.int _ _) (Value.int _ _)) _ _ _); refine wpAny_eq_int ?_)
 | (with_reducible first | refine x_lti ?_ | refine x_gti ?_ | refine x_is_nn ?_ | refine x_is_in ?_ | refine x_is_rn ?_ | refine x_isnot_nn ?_ | refine x_isnot_rn ?_ | refine x_try ?_ | refine x_or_cons ?_ | refine x_and_cons ?_ | refine wpAny_allTrue_Or_nil ?_ | refine wpAny_allTrue_And_nil ?_)
 | ((with_reducible show wpAny _ _ (eval (Expr.List _ _) _) _ _ _); refine x_list (by rfl) ?_)
 | ((with_reducible show wpAny _ _ (eval (Expr.Tuple _ _ _) _) _ _ _); refine x_tup (by rfl) ?_)
 | (refine ⟨_,by assumption,by exact Nat.le_of_ble_eq_true (by rfl),?_⟩; intro _ _ _)
 | ((with_reducible show wpAny _ _ (getMethod (Value.ref _) _ _) _ _ _); first
   | refine d_meth ‹_› (by walk_at "m") PySem.F.slot_dict_pop PySem.F.type_dict_pop ?_
   | refine d_meth ‹_› (by walk_at "m") PySem.F.slot_dict_get PySem.F.type_dict_get ?_
   | refine l_meth ‹_› (by walk_at "m") PySem.F.slot_list_append PySem.F.type_list_append ?_)
 | (with_reducible first | refine To.builtin ?_ | refine wpAny_Delete ?_ | refine wpAny_deleteEach_cons ?_ | refine wpAny_deleteEach_nil ?_ | refine wpAny_delete_Subscript ?_ | refine Subscript_ ?_)
 | ((with_reducible show wpAny _ _ (exec (Stmt.Assign [Expr.Subscript _ _ _] _ _) _) _ _ _); refine wpAny_Assign_Subscript ?_)
 | ((with_reducible show wpAny _ _ (setAttr (Value.ref _) _ _) _ _ _); refine s_slot (St.pick2 ‹_› (by walk_at "k") (by walk_at "k")) (by walk_at "c") (by walk_at "m") (by walk_at "i") (by rfl) (by rfl) ?_; intro _ _)
 | ((with_reducible show wpAny _ _ (setAttr (Value.ref _) _ _) _ _ _); refine s_own ‹_› (by walk_at "m") (by walk_at "c") (by walk_at "r") (by walk_at "i") (by rfl) (by rfl) (Nat.le_of_ble_eq_true (by rfl)) ?_; intro _ _))
set_option hygiene false in
local macro_rules | `(tactic| walk_at "g")=>`(tactic| repeat walk_at "go")
section
section
variable {c:Cx}{L:List Cell}{s:Shared}{A:Around}{E:Value→Shared→Prop}{R:Result→Shared→Prop}

noncomputable def Tmr (clk:Addr) (n t:Int) (o:Obj):Prop:=∃ i:Tok × Tok,Dm [(31,.ref clk),(32,.int n i.1),(33,.int t i.2)] o
noncomputable def Tm0 (clk:Addr) (o:Obj):Prop:=∃ i:Tok × Option (Int × Tok),Dm ((31,.ref clk)::(32,.int 0 i.1)::(match i.2 with | some j=>[(33,.int j.1 j.2)] | none=>[])) o

theorem timer_call_in {tm dt clk:Addr}{n t:Int} (S:St c ((tm,InstP 929 dt)::(dt,Tmr clk n t)::L) s) (hr:A.depth<recursionLimit) (hn:n≠0)
  (h:∀ tk s',St c ((tm,InstP 929 dt)::(dt,Tmr clk n t)::L) s'→R (.ok (.ret (.int t tk))) s') :
  codeAny c.M A (.call (.ref 898) ⟨[.ref tm],[]⟩) R s:=by
 obtain ⟨⟨tk,tk2⟩,S⟩:=(S.pick (Pick.there .here)).open1
 refine f_call fn898 [(1,.ref tm)] S hr (by rfl) (by kernel_rfl!) (by kernel_rfl!) ?_
 intro fr s S
 have F:=fn898
 iterate 9 walk_at "go"
 refine ⟨fun e=>absurd (by simpa using e) hn,fun _=>?_⟩
 walk_at "g"
 rename_i S
 exact h _ _ ((S.drop.pick (Pick.there .here)).weak (.there .here) fun o q=>⟨(_,_),q⟩)

theorem timer_enter_in {tm dt clk:Addr}{n t:Int} (S:St c ((tm,InstP 929 dt)::(dt,Tmr clk n t)::L) s) (hr:A.depth<recursionLimit) (hn:n≠0)
  (h:∀ tk s',St c ((tm,InstP 929 dt)::(dt,Tmr clk (n+1) t)::L) s'→R (.ok (.ret (.int t tk))) s') :
  codeAny c.M A (.call (.ref 905) ⟨[.ref tm],[]⟩) R s:=by
 obtain ⟨⟨tk,tk2⟩,S⟩:=(S.pick (Pick.there .here)).open1
 refine f_call fn905 [(1,.ref tm)] S hr (by rfl) (by kernel_rfl!) (by kernel_rfl!) ?_
 intro fr s S
 have F:=fn905
 iterate 9 walk_at "go"
 refine ⟨fun e=>absurd (by simpa using e) hn,fun _=>?_⟩
 walk_at "g"
 rename_i S
 exact h _ _ ((S.drop.pick (Pick.there .here)).weak (.there .here) fun o q=>⟨(_,_),q⟩)

theorem timer_exit_in {tm dt clk:Addr}{n t:Int} (S:St c ((tm,InstP 929 dt)::(dt,Tmr clk n t)::L) s) (hr:A.depth<recursionLimit) {a b d:Value}
  (h:∀ s',St c ((tm,InstP 929 dt)::(dt,Tmr clk (n-1) t)::L) s'→R (.ok (.ret .none)) s') :
  codeAny c.M A (.call (.ref 912) ⟨[.ref tm,a,b,d],[]⟩) R s:=by
 obtain ⟨⟨tk,tk2⟩,S⟩:=(S.pick (Pick.there .here)).open1
 refine f_callT fn912 S hr (by rfl) bind912 ?_
 refine wpAny_bind (wpAny_newTuple (wpAny_pure ⟨[(1,.ref tm),(37,.ref s.heap.objs.size)],_,rfl,by kernel_rfl!,S.push _ rfl (P:=fun _=>True) trivial,?_⟩))
 intro fr s S
 have F:=fn912
 walk_at "g"
 rename_i S
 exact h _ ((S.drop.drop.pick (Pick.there .here)).weak (.there .here) fun o q=>⟨(_,_),q⟩)

theorem timer_own_usual (P:Params):usualIn (Mine.K P) 929 "_Timer__timer" = true:=by kernel_rfl!
theorem timer_enter_out {K:Ck c}{tm dt:Addr}{t m:Int} (S:St c ((tm,InstP 929 dt)::(dt,Tm0 K.clk)::(K.G t m++L)) s) (hr:A.depth+1<recursionLimit)
  (h:∀ tk s',St c ((tm,InstP 929 dt)::(dt,Tmr K.clk 1 (t+K.step))::(K.G (t+K.step) (m+1)++L)) s'→R (.ok (.ret (.int (t+K.step) tk))) s') :
  codeAny c.M A (.call (.ref 905) ⟨[.ref tm],[]⟩) R s:=by
 obtain ⟨⟨tk,j⟩,S⟩:=(S.pick (Pick.there .here)).open1
 refine f_call fn905 [(1,.ref tm)] S (by lia) (by rfl) (by kernel_rfl!) (by kernel_rfl!) ?_
 intro fr s S
 have F:=fn905
 iterate 9 walk_at "go"
 refine ⟨fun _=>?_,fun e=>absurd e (by decide)⟩
 iterate 4 walk_at "go"
 refine g_usual ‹_› (by walk_at "m") (by walk_at "m") timer_own_usual ?_
 walk_at "go"
 refine To.clock ‹_› (by walk_at "K") hr fun tk' s S=>?_
 rcases j with _ | ⟨t0,tk0⟩
 all_goals
  walk_at "g"
  rename_i S
  have S:=S.dropAt (p:=(fr,_)) (by walk_at "k")
  have S:=S.pick2 (p:=(tm,InstP 929 dt)) (q:=(dt,_)) (by walk_at "k") (by walk_at "k")
  exact h _ _ (S.weak (.there .here) fun o q=>⟨(_,_),q⟩)
end
end
section

noncomputable def DI (c:Cx) (kvs:List (Int × Value)) (o:Obj):Prop:=o.IsDictOf (intKind pw c.w) kvs
section
variable {c:Cx}{L L':List Cell}{s:Shared}{A:Around}{E:Value→Shared→Prop}{R:Result→Shared→Prop}{env:Env}{d:Addr}{kvs:List (Int × Value)}{k:Int}{t:Tok}{v:Value}

theorem St.di (S:St c L s) (h:(d,DI c kvs)∈L):s.heap.DictOf (intKind pw c.w) d kvs:=Heap.dictOf_iff.mpr (S.get h)
theorem St.notMods (S:St c L s) {P} (h:(d,P)∈L):(d == sysModules)=false:=by
 have h1:c.h₀.objs.size≤d:=S.low _ h
 have h2:=S.ok.big
 rw [beq_eq_false_iff_ne]
 have h3:sysModules≤3:=by decide
 exact fun e=>absurd (Nat.lt_of_lt_of_le h2 (e ▸ h1)) (Nat.not_lt.mpr h3)
theorem St.setDI {s':Shared}{kvs'} (S:St c L s) (r:Rep d (DI c kvs) (DI c kvs') L L') (hm:s'.heap.DictOf (intKind pw c.w) d kvs') (hs:Heap.SameBut d s.heap s'.heap) (hg:s'.gens=s.gens) (hos:autoParam (s'.os=s.os) aR):St c L' s' :=
 S.change r hs (Heap.dictOf_iff.mp hm) hg hos

theorem d_get {value slice:Expr}{Q:Value→Shared→Prop} (S:St c L s) (hd:(d,DI c kvs)∈L) (hl:valueAt kvs k=some v) (h:∀ s',St c L s'→Q v s')
  (hs:autoParam (subscripted slice false (.ref d) (.int k t)=operate [.ref d,.int k t] (getItem (.ref d) (.int k t))) aW) (hg:autoParam (∀ r,letTemporaryGo value (.ref d) r=pure ()) aI) :
  wpAny c.M A (subscriptTail value slice (.ref d) (.int k t)) Q E s :=
 subscriptTail_builtin (S.di hd).typeIs slot_dict_getitem.lookup (wpAny_getItem_of (intKind_is _ _ _ _) (S.di hd).mapOf hl (h _ (S.like rfl rfl))) hs hg
theorem d_miss {value slice:Expr}{Q:Value→Shared→Prop} (S:St c L s) (hd:(d,DI c kvs)∈L) (hh:A.handled=none) (hl:valueAt kvs k=none)
  (h:∀ h' e tk,Heap.NewExc s.heap h' e "KeyError" → E (.ref e) ⟨h',s.gens,s.drawn,tk,s.os⟩)
  (hs:autoParam (subscripted slice false (.ref d) (.int k t)=operate [.ref d,.int k t] (getItem (.ref d) (.int k t))) aW) (hg:autoParam (∀ r,letTemporaryGo value (.ref d) r=pure ()) aI) :
  wpAny c.M A (subscriptTail value slice (.ref d) (.int k t)) Q E s :=
 subscriptTail_builtin (S.di hd).typeIs slot_dict_getitem.lookup (wpAny_getItem_missing_of (intKind_is _ _ _ _) (S.notMods hd) hh (S.di hd).mapOf hl (fun h' e x=>h h' e _ x)) hs hg
theorem d_set {Q:Unit→Shared→Prop} (S:St c L s) (hd:Rep d (DI c kvs) (DI c (stored kvs k v)) L L') (hz:kvs.length≤1000) (h:∀ s',St c L' s'→Q () s') :
  wpAny c.M A (setItem (.ref d) (.int k t) v) Q E s :=
 wpAny_setItem_pairs (hsz:=by rw [sizeLine_eq]; lia) (intKind_is _ _ _ _) (S.di hd.mem) fun _ hm hs=>h _ (S.setDI hd hm hs rfl)
theorem d_del {Q:Unit→Shared→Prop} (S:St c L s) (hd:Rep d (DI c kvs) (DI c (without kvs k)) L L') (hl:(valueAt kvs k).isSome=true) (hz:kvs.length≤1000) (h:∀ s',St c L' s'→Q () s') :
  wpAny c.M A (delItem (.ref d) (.int k t)) Q E s:=by
 have hD:=S.di hd.mem
 unfold delItem
 try with_reducible refine wpAny_holding ?_
 refine wpAny_bind (wpAny_sequenceKey hD.typeIs (by decide) ?_)
 refine wpAny_bind (wpAny_callSpecial?_slot (name:=Str.ofString "__delitem__") hD.typeIs PySem.F.slot_dict_delitem
  (call_meetsIn PySem.F.slot_dict_delitem hD.typeIs PySem.F.entry_dict_delitem (PySem.F.args_dict_delitem_2 _ _) (meets_dict_delitem_pairs (intKind pw c.w) d (intKind_is _ _ k t)) ⟨kvs,hD,by rw [sizeLine_eq]; lia,hl,fun h' hmm hs=>?_⟩))
 exact wpAny_pure (h _ (S.setDI (s':=⟨h',s.gens,s.drawn,s.toks+1,s.os⟩) hd hmm hs rfl))
theorem d_pop {Q:Value→Shared→Prop} (S:St c L s) (hd:Rep d (DI c kvs) (DI c (without kvs k)) L L') (hl:valueAt kvs k=some v) (hz:kvs.length≤1000) (h:∀ s',St c L' s'→Q v s') :
  wpAny c.M A (call (.builtin "dict.pop") [.ref d,.int k t]) Q E s:=by
 have hD:=S.di hd.mem
 exact call_meetsIn PySem.F.slot_dict_pop hD.typeIs PySem.F.entry_dict_pop (PySem.F.args_dict_pop_2 _ _) (meets_dict_pop_there (intKind pw c.w) d (intKind_is _ _ k t) [] (.inl rfl) rfl) ⟨kvs,v,hD,by rw [sizeLine_eq]; lia,hl,fun h' hmm hs =>
  h _ (S.setDI (s':=⟨h',s.gens,s.drawn,s.toks+1,s.os⟩) hd hmm hs rfl)⟩
theorem d_get1 {Q:Value→Shared→Prop} (S:St c L s) (hd:(d,DI c kvs)∈L) (h:∀ s',St c L s'→Q ((valueAt kvs k).getD .none) s') :
  wpAny c.M A (call (.builtin "dict.get") [.ref d,.int k t]) Q E s :=
 call_meetsIn PySem.F.slot_dict_get (S.di hd).typeIs PySem.F.entry_dict_get (PySem.F.args_dict_get_2 _ _) (meets_dict_get (intKind pw c.w) d (intKind_is _ _ k t) (S.notMods hd)) ⟨_,(S.di hd).mapOf,h _ (S.like rfl rfl)⟩
theorem d_in {Q:Value→Shared→Prop} (S:St c L s) (hd:(d,DI c kvs)∈L) (h:∀ s',St c L s'→Q (.bool (valueAt kvs k).isSome) s'):wpAny c.M A (compareOp .In (.int k t) (.ref d)) Q E s :=
 wpAny_in_of (intKind_is _ _ _ _) (S.notMods hd) (S.di hd).mapOf (h _ (S.like rfl rfl))
theorem d_len {Q:Value→Shared→Prop} (S:St c L s) (hd:(d,DI c kvs)∈L) (hz:kvs.length≤1000) (h:∀ tk s',St c L s'→Q (.int kvs.length tk) s'):wpAny c.M A (call (.builtin "len") [.ref d]) Q E s :=
 call_len_dict (S.notMods hd) (S.di hd) (by lia) (h _ _ (S.like rfl rfl))
theorem d_meth {name:Str}{id:String}{pl:Sem Bool}{Q:Value × List Value→Shared→Prop} (S:St c L s) (hd:(d,DI c kvs)∈L) (slot:Slot "dict" name id) (ty:typeOf (.builtin id)=pure (.type "method_descriptor")) (h:Q (.builtin id,[.ref d]) s) :
  wpAny c.M A (getMethod (.ref d) name pl) Q E s :=
 getMethod_builtin (S.di hd).typeIs PySem.F.plainAttrs_dict slot ty (S.di hd).mapOf.noDict h
end
end
section

inductive Fits (k:List (Addr × Obj)):List Cell→List (Addr × Obj)→Prop
 | nil:Fits k [] k
 | cons {a P o L ns}:P o→Fits k L ns→Fits k ((a,P)::L) ((a,o)::ns)
theorem Fits.keys {k L ns} (h:Fits k L ns):ns.map (·.1)=L.map (·.1)++k.map (·.1):=by
 induction h with
 | nil=>rfl
 | cons _ _ ih=>simp only [List.map_cons,ih,List.cons_append]
theorem Fits.cell {k L ns} (h:Fits k L ns) {p:Cell} (hp:p∈L):∃ o,(p.1,o)∈ns∧p.2 o:=by
 induction h with
 | nil=>cases hp
 | cons q _ ih =>
  rcases List.mem_cons.mp hp with rfl | hp
  ·exact ⟨_,.head _,q⟩
  ·obtain ⟨o,h1,h2⟩:=ih hp
   exact ⟨o,.tail _ h1,h2⟩
theorem Fits.kept {k L ns} (h:Fits k L ns) {p:Addr × Obj} (hp:p∈k):p∈ns:=by
 induction h with
 | nil=>exact hp
 | cons q _ ih=>exact .tail _ ih

section
variable {c:Cx}{L L':List Cell}{s:Shared}{fr:Addr}{l:List (Nat × Value)}
theorem St.fits (S:St c L s):∃ ns,Fits c.k L ns∧∀ p∈ns,s.heap.get? p.1=some p.2:=by
 have h:=S.cells
 have hk:=S.kept
 clear S
 induction L with
 | nil=>exact ⟨c.k,.nil,hk⟩
 | cons p L ih =>
  obtain ⟨ns,h1,h2⟩:=ih fun q hq=>h q (.tail _ hq)
  obtain ⟨o,e,q⟩:=h p (.head _)
  refine ⟨(p.1,o)::ns,.cons q h1,fun r hr=>?_⟩
  rcases List.mem_cons.mp hr with rfl | hr
  ·exact e
  ·exact h2 r hr
noncomputable def St.news_P:Prop:=∀ (S:St c ((fr,Nm l)::L) s),∃ m ns,(∀ k x,N[k]? = some x→m x=l.lookup k)∧Fr c.h₀ fr s.heap m∧News c.h₀ fr s.heap ns∧Fits c.k L ns∧(ns.map (·.1)).Nodup
theorem St.news:@St.news_P c L s fr l:=by
 revert c L s fr l
 walk_at "e5"; intro c L s fr l
 intro S
 obtain ⟨o,e,m,⟨es,ep,q1,q2,q3⟩,hm⟩:=S.get (.head _)
 obtain ⟨ns,h1,h2⟩:=S.drop.fits
 refine ⟨m,ns,hm,⟨⟨o,es,ep,e,q1,q2,q3⟩,S.base,S.low _ (.head _)⟩,fun p hp=>?_,h1,?_⟩
 ·have hk:p.1∈L.map (·.1)++c.k.map (·.1):=by rw [← h1.keys]; exact List.mem_map_of_mem hp
  refine ⟨h2 p hp,?_⟩
  rcases List.mem_append.mp hk with hk | hk
  ·obtain ⟨q,hq,e2⟩:=List.mem_map.mp hk
   refine ⟨?_,?_⟩
   ·rw [← e2]; exact S.ne hq
   ·rw [← e2]; exact S.drop.apart q hq
  ·obtain ⟨q,hq,e2⟩:=List.mem_map.mp hk
   refine ⟨fun z=>S.apK _ (.head _) (List.mem_map.mpr ⟨q,hq,e2.trans z⟩),?_⟩
   rw [← e2]; exact S.ok.kn q hq
 ·rw [h1.keys,List.nodup_append]
  refine ⟨S.drop.nodup,S.ok.kd,fun a ha b hb e=>?_⟩
  obtain ⟨q,hq,rfl⟩:=List.mem_map.mp ha
  exact S.drop.apK q hq (e ▸ hb)
theorem St.back {h':Heap}{m:Str→Option Value}{ns':List (Addr × Obj)}{g:Array GenState}{d:Drawn}{t:Nat}{os:OsState} (S:St c ((fr,Nm l)::L) s) (hm:∀ k x,N[k]? = some x→m x=l.lookup k) (F:Fr c.h₀ fr h' m) (N':News c.h₀ fr h' ns')
  (ft:Fits c.k L' ns') (hk:(ns'.map (·.1)).Nodup) (hl:∀ p∈L',c.h₀.objs.size≤p.1) (hg:g=s.gens) (hos:autoParam (os=s.os) aR):St c ((fr,Nm l)::L') ⟨h',g,d,t,os⟩:=by
 obtain ⟨o,es,ep,e,q1,q2,q3⟩:=F.ns
 have mem:∀ p∈L',∃ o,(p.1,o)∈ns'∧p.2 o:=fun p hp=>ft.cell hp
 rw [ft.keys,List.nodup_append] at hk
 refine ⟨S.ok,F.keep,fun p hp=>?_,fun p hp=>?_,?_,hg.trans S.gens,fun p hp=>?_,?_,fun p hp=>(N' p (ft.kept hp)).1,fun p hp=>?_,hos.trans S.os⟩
 ·rcases List.mem_cons.mp hp with rfl | hp
  ·exact ⟨o,e,m,⟨es,ep,q1,q2,q3⟩,hm⟩
  ·obtain ⟨o,h1,h2⟩:=mem p hp
   exact ⟨o,(N' _ h1).1,h2⟩
 ·rcases List.mem_cons.mp hp with rfl | hp
  ·exact S.apart _ (.head _)
  ·obtain ⟨o,h1,h2⟩:=mem p hp
   exact (N' _ h1).2.2
 ·rw [List.map_cons,List.nodup_cons]
  refine ⟨fun h=>?_,hk.1⟩
  obtain ⟨q,hq,e⟩:=List.mem_map.mp h
  obtain ⟨o,h1,_⟩:=mem q hq
  exact (N' _ h1).2.1 e
 ·rcases List.mem_cons.mp hp with rfl | hp
  ·exact S.low _ (.head _)
  ·exact hl p hp
 ·exact Nat.le_trans (S.low _ (.head _)) (Nat.le_of_lt (Heap.lt_size e))
 ·rcases List.mem_cons.mp hp with rfl | hp
  ·exact S.apK _ (.head _)
  ·exact fun hm=>hk.2.2 _ (List.mem_map_of_mem hp) _ hm rfl
end

noncomputable def SlP (C dx:Addr) (sl:List (Option Value)) (o:Obj):Prop:=o = { instObj C dx with slots:=sl.toArray }
noncomputable def putSlot (i:Nat) (v:Value) (sl:List (Option Value)):List (Option Value):=(sl++List.replicate (i+1-sl.length) none).set i (some v)
theorem slots_eq {i:Nat}{v:Value}{sl:List (Option Value)}:(sl.toArray++Array.replicate (i+1-sl.toArray.size) none).setIfInBounds i (some v)=(putSlot i v sl).toArray:=by
 unfold putSlot
 apply Array.toList_inj.mp
 simp
section
variable {c:Cx}{L L':List Cell}{s:Shared}{A:Around}{E:Value→Shared→Prop}{R:Result→Shared→Prop}{f fr:Addr}{C x dx p:Addr}{i:Nat}{tab:List (Nat × AK)}{k:Nat}{l:List (Nat × Value)}{sl sl':List (Option Value)}{name:Str}{v:Value}

theorem g_slot {ex:Bool}{Q:Value→Shared→Prop} (S:St c L s) (hx:(x,SlP C dx sl)∈L) (H:Cls C tab) (hd:(dx,Dm [])∈L) (hn:N[k]? = some name) (hk:tab.lookup k=some (.slot p i)) (hv:(sl[i]?).join=some v)
  (hh:handedIn v=true) (h:∀ s',St c L s'→Q v s'):wpAny c.M A (getAttr (.ref x) name ex) Q E s:=by
 have hc:=H.get c.P hn hk
 have hg:=H.ga c.P
 unfold okGA at hg
 unfold chk noGA at hc
 simp only [Bool.and_eq_true,decide_eq_true_eq] at hc hg
 obtain ⟨⟨⟨⟨⟨⟨⟨⟨h1,h2⟩,h3⟩,h4⟩,h5⟩,h6⟩,h7⟩,h8⟩,h9⟩:=hc
 obtain ⟨o,e,rfl⟩:=S.get hx
 obtain ⟨od,e',q⟩:=S.get hd
 have S':St c L ⟨s.heap,s.gens,s.drawn,s.toks+1,s.os⟩:=S.like rfl rfl
 refine get_bind (od:=some od) S.K ⟨e,rfl,rfl,e'⟩ hg.1.1 (findObj_data h2 h3 h4 h5) h1 (wpAny_call ?_)
 refine slot_get (od:=some od) (v:=v) S'.K ⟨e,rfl,rfl,e'⟩ h6 (by simpa using hv) ?_
 show wpAny _ _ (handedOut v) _ _ _
 rw [handedOut_of hh]
 exact wpAny_pure (h _ S')
theorem g_methS {pl:Sem Bool}{Q:Value × List Value→Shared→Prop} (S:St c L s) (hx:(x,SlP C dx sl)∈L) (H:Cls C tab) (hd:(dx,Dm [])∈L) (hn:N[k]? = some name) (hk:tab.lookup k=some (.meth f))
  (h:Q (.ref f,[.ref x]) s):wpAny c.M A (getMethod (.ref x) name pl) Q E s:=by
 have hc:=H.get c.P hn hk
 have hg:=H.ga c.P
 unfold okGA at hg
 unfold chk noGA at hc
 simp only [Bool.and_eq_true,decide_eq_true_eq] at hc hg
 obtain ⟨⟨h1,h2⟩,h3⟩:=hc
 obtain ⟨o,e,rfl⟩:=S.get hx
 obtain ⟨od,e',q⟩:=S.get hd
 refine method_fn (od:=some od) S.K ⟨e,rfl,rfl,e'⟩ hg.1.1 h1 h2 h3 ?_ h
 unfold shadowIn
 dsimp only
 rw [lookIn_nm q.nm hn]; rfl
noncomputable def s_slot_P (Q:Unit→Shared→Prop):Prop:=∀ (S:St c ((fr,Nm l)::(x,SlP C dx sl)::L) s) (H:Cls C tab) (hd:(dx,Dm [])∈L) (hn:N[k]? = some name) (hk:tab.lookup k=some (.slot p i)) (hl:putSlot i v sl=sl') (h:∀ s',St c ((fr,Nm l)::(x,SlP C dx sl')::L) s'→Q () s'),wpAny c.M A (setAttr (.ref x) name v) Q E s
theorem s_slot {Q:Unit→Shared→Prop}:@s_slot_P c L s A E fr C x dx p i tab k l sl sl' name v Q:=by
 revert c L s A E fr C x dx p i tab k l sl sl' name v Q
 walk_at "e9"; intro c L s A E fr C x dx
 walk_at "e9"; intro p i tab k l sl sl' name v
 walk_at "e1"; intro Q
 intro S H hd hn hk hl h
 have hc:=H.get c.P hn hk
 have hg:=H.ga c.P
 unfold okGA at hg
 unfold chk noGA at hc
 simp only [Bool.and_eq_true,decide_eq_true_eq] at hc hg
 obtain ⟨⟨⟨⟨⟨⟨⟨⟨h1,h2⟩,h3⟩,h4⟩,h5⟩,h6⟩,h7⟩,h8⟩,h9⟩:=hc
 have S':St c ((fr,Nm l)::(x,SlP C dx sl)::L) ⟨s.heap,s.gens,s.drawn,s.toks+1,s.os⟩:=S.like rfl rfl
 obtain ⟨m,ns,hm,F,NN,ft,nd⟩:=S'.news
 cases ft with
 | @cons _ _ o _ rest q ft =>
  cases q
  obtain ⟨o,e,q0⟩:=S.get (.tail _ (.head _))
  cases q0
  obtain ⟨od,e',q⟩:=S.get (.tail _ (.tail _ hd))
  refine set_plain (od:=some od) S.K ⟨e,rfl,rfl,e'⟩ hg.1.2 ?_
  refine osa_descr (od:=some od) KF.slot_mset S'.K ⟨e,rfl,rfl,e'⟩ hg.2 h7 h8 ?_
  rw [List.map_cons,List.nodup_cons] at nd
  refine slot_set (od:=some od) (pre:=[]) F NN S'.K ⟨e,rfl,rfl,e'⟩ h6 h9 (fun _ h=>nomatch h) (fun p hp e=>nd.1 (List.mem_map.mpr ⟨p,hp,e⟩)) rfl rfl fun h' F' N'=>?_
  refine h _ (S'.back hm F' N' (.cons ?_ ft) ?_ (fun p hp=>?_) rfl)
  ·show _=_
   rw [← hl]
   exact congrArg (fun z=>({ cls:=.ref C,dict:=some dx,data:=.plain,slots:=z }:Obj)) slots_eq
  ·rw [List.nil_append,List.map_cons,List.nodup_cons]; exact nd
  ·rcases List.mem_cons.mp hp with rfl | hp
   ·exact (S'.low _ (.tail _ (.head _)):c.h₀.objs.size≤(x,SlP C dx sl).1)
   ·exact S'.low _ (.tail _ (.tail _ hp))
end
end
variable {c:Cx}{L L':List Cell}{s:Shared}{A:Around}{E:Value→Shared→Prop}{R:Result→Shared→Prop}
section
section

noncomputable abbrev Lk (dx:Addr) (e k:Value) (n p:Addr):Obj→Prop:=SlP 1063 dx [some e,some k,some (.ref n),some (.ref p)]

noncomputable def unlink_far_P (a da p dp n dn:Addr) (ea ka ep kp en kn:Value) (pp np' pn' nn:Addr):Prop:=∀ (S:St c ((a,Lk da ea ka n p)::(da,Dm [])::(p,Lk dp ep kp np' pp)::(dp,Dm [])::(n,Lk dn en kn nn pn')::(dn,Dm [])::L) s) (hr:A.depth<recursionLimit) (h:∀ s',St c ((a,Lk da ea ka n p)::(da,Dm [])::(p,Lk dp ep kp n pp)::(dp,Dm [])::(n,Lk dn en kn nn p)::(dn,Dm [])::L) s'→R (.ok (.ret .none)) s'),codeAny c.M A (.call (.ref 1059) ⟨[.ref a],[]⟩) R s
theorem unlink_far {a da p dp n dn:Addr}{ea ka ep kp en kn:Value}{pp np' pn' nn:Addr}:@unlink_far_P c L s A R a da p dp n dn ea ka ep kp en kn pp np' pn' nn:=by
 revert c L s A R a da p dp n dn ea ka ep kp en kn pp np' pn' nn
 walk_at "e9"; intro c L s A R a da p dp
 walk_at "e9"; intro n dn ea ka ep kp en kn pp
 walk_at "e2"; intro np' pn'
 walk_at "e1"; intro nn
 intro S hr h
 refine f_call fn1059 [(1,.ref a)] S hr (by rfl) (by kernel_rfl!) (by kernel_rfl!) ?_
 intro fr s S
 have F:=fn1059
 walk_at "g"
 rename_i S
 exact h _ (S.drop.perm (by exact ixd [2,2,1,1,0] rfl))

noncomputable def unlink_near_P (a da p dp:Addr) (ea ka ep kp:Value) (pp pn:Addr):Prop:=∀ (S:St c ((a,Lk da ea ka p p)::(da,Dm [])::(p,Lk dp ep kp pn pp)::(dp,Dm [])::L) s) (hr:A.depth<recursionLimit) (h:∀ s',St c ((a,Lk da ea ka p p)::(da,Dm [])::(p,Lk dp ep kp p p)::(dp,Dm [])::L) s'→R (.ok (.ret .none)) s'),codeAny c.M A (.call (.ref 1059) ⟨[.ref a],[]⟩) R s
theorem unlink_near {a da p dp:Addr}{ea ka ep kp:Value}{pp pn:Addr}:@unlink_near_P c L s A R a da p dp ea ka ep kp pp pn:=by
 revert c L s A R a da p dp ea ka ep kp pp pn
 walk_at "e9"; intro c L s A R a da p dp
 walk_at "e5"; intro ea ka ep kp pp
 walk_at "e1"; intro pn
 intro S hr h
 refine f_call fn1059 [(1,.ref a)] S hr (by rfl) (by kernel_rfl!) (by kernel_rfl!) ?_
 intro fr s S
 have F:=fn1059
 walk_at "g"
 rename_i S
 exact h _ (S.drop.perm (by exact ixd [1,1,0] rfl))
end
end
section
section

structure Nd where
 a:Addr
 dx:Addr
 e:Value
 k:Value
noncomputable def hd (n:Addr):List Nd→Addr | []=>n | b::_=>b.a
noncomputable def lst (p:Addr):List Nd→Addr | []=>p | b::bs=>lst b.a bs
noncomputable def links:Addr→List Nd→Addr→List Cell
 | _,[],_=>[]
 | p,b::bs,n=>(b.a,Lk b.dx b.e b.k (hd n bs) p)::(b.dx,Dm [])::links b.a bs n
theorem hd_app (n:Addr):∀ xs ys,hd n (xs++ys)=hd (hd n ys) xs
 | [],_=>rfl
 | _::_,_=>rfl
theorem lst_app (p:Addr):∀ xs ys,lst p (xs++ys)=lst (lst p xs) ys
 | [],_=>rfl
 | x::xs,ys=>lst_app x.a xs ys
theorem links_app (p n:Addr):∀ xs ys,links p (xs++ys) n=links p xs (hd n ys)++links (lst p xs) ys n
 | [],_=>rfl
 | x::xs,ys=>by
  show (x.a,Lk x.dx x.e x.k (hd n (xs++ys)) p)::(x.dx,Dm [])::links x.a (xs++ys) n=_
  rw [links_app x.a n xs ys,hd_app]; rfl
theorem hd_nil (n:Addr):hd n []=n:=rfl
theorem hd_cons (n:Addr) (b bs):hd n (b::bs)=b.a:=rfl
theorem lst_nil (n:Addr):lst n []=n:=rfl
theorem lst_cons (n:Addr) (b bs):lst n (b::bs)=lst b.a bs:=rfl
theorem links_nil (p n:Addr):links p [] n=[]:=rfl
theorem links_cons (p n:Addr) (b bs):links p (b::bs) n=(b.a,Lk b.dx b.e b.k (hd n bs) p)::(b.dx,Dm [])::links b.a bs n:=rfl
noncomputable def Ring (root:Nd) (rs:List Nd):List Cell:=links (lst root.a rs) (root::rs) root.a

noncomputable def unlink_ring_P (root a:Nd) (xs ys:List Nd):Prop:=∀ (S:St c (Ring root (xs++a::ys)++L) s) (hr:A.depth<recursionLimit) (h:∀ n p s',St c (Ring root (xs++ys)++(a.a,Lk a.dx a.e a.k n p)::(a.dx,Dm [])::L) s'→R (.ok (.ret .none)) s'),codeAny c.M A (.call (.ref 1059) ⟨[.ref a.a],[]⟩) R s
theorem unlink_ring {root a:Nd}{xs ys:List Nd}:@unlink_ring_P c L s A R root a xs ys:=by
 revert c L s A R root a xs ys
 walk_at "e9"; intro c L s A R root a xs ys
 intro S hr h
 cases ys with
 | cons b vs =>
  obtain ⟨us,p,hu⟩ : ∃ us p,root::xs=us++[p]:=⟨_,_,(List.dropLast_concat_getLast (List.cons_ne_nil root xs)).symm⟩
  have e1:root::(xs++a::b::vs)=us++p::a::b::vs:=by
   rw [← List.cons_append,hu]; simp
  have e2:root::(xs++b::vs)=us++p::b::vs:=by
   rw [← List.cons_append,hu]; simp
  have e3:lst root.a (xs++a::b::vs)=lst root.a (xs++b::vs):=by rw [lst_app,lst_app]; rfl
  unfold Ring at S h
  rw [e1,e3,links_app] at S
  rw [e2,links_app] at h
  generalize lst root.a (xs++b::vs)=P0 at S h
  simp only [links_cons,hd_cons,List.cons_append,List.append_assoc] at S h
  refine unlink_far (S.perm (L':=(a.a,Lk a.dx a.e a.k b.a p.a)::(a.dx,Dm [])::(p.a,Lk p.dx p.e p.k a.a (lst P0 us))::(p.dx,Dm [])::(b.a,Lk b.dx b.e b.k (hd root.a vs) a.a)::(b.dx,Dm [])::(links P0 us p.a++(links b.a vs root.a++L))) ?_) hr fun s' S'=>h b.a p.a s' (S'.perm ?_)
  ·walk_at "d"
  ·walk_at "d"
 | nil =>
  rcases List.eq_nil_or_concat xs with rfl | ⟨us,p,rfl⟩
  ·
   unfold Ring at S h
   simp only [links_cons,links_nil,hd_cons,hd_nil,lst_cons,lst_nil,List.nil_append,List.cons_append] at S h
   refine unlink_near (S.perm (L':=(a.a,Lk a.dx a.e a.k root.a root.a)::(a.dx,Dm [])::(root.a,Lk root.dx root.e root.k a.a a.a)::(root.dx,Dm [])::L) ?_) hr fun s' S'=>h root.a root.a s' (S'.perm ?_)
   ·exact ixd [2,2] rfl
   ·exact ixd [2,2] rfl
  ·
   rw [List.concat_eq_append] at S h
   unfold Ring at S h
   simp only [links_cons,links_nil,lst_app,links_app,hd_app,hd_cons,hd_nil,lst_cons,lst_nil,List.nil_append,List.append_nil,List.cons_append,List.append_assoc] at S h
   refine unlink_far (S.perm (L':=(a.a,Lk a.dx a.e a.k root.a p.a)::(a.dx,Dm [])::(p.a,Lk p.dx p.e p.k a.a (lst root.a us))::(p.dx,Dm [])::(root.a,Lk root.dx root.e root.k (hd p.a us) a.a)::(root.dx,Dm [])::(links root.a us p.a++L)) ?_) hr fun s' S'=>h root.a p.a s' (S'.perm ?_)
   ·exact ixe 2 6 [4,4,2,2] rfl rfl rfl
   ·exact ixe 6 2 [4,4,2,2] rfl rfl rfl
end
end
section
section
variable {env:Env}
theorem x_is_nn {Q:Value→Shared→Prop} (h:Q (.bool true) s):wpAny c.M A (compareOp .Is .none .none) Q E s:=wpAny_is_self rfl h
theorem x_is_in {i:Int}{t:Tok}{Q:Value→Shared→Prop} (h:Q (.bool false) s):wpAny c.M A (compareOp .Is (.int i t) .none) Q E s:=wpAny_is_plain rfl h
theorem x_is_rn {a:Addr}{Q:Value→Shared→Prop} (h:Q (.bool false) s):wpAny c.M A (compareOp .Is (.ref a) .none) Q E s:=wpAny_is_plain rfl h
theorem x_isnot_nn {Q:Value→Shared→Prop} (h:Q (.bool false) s):wpAny c.M A (compareOp .IsNot .none .none) Q E s:=wpAny_isNot_self rfl h
theorem x_isnot_rn {a:Addr}{Q:Value→Shared→Prop} (h:Q (.bool true) s):wpAny c.M A (compareOp .IsNot (.ref a) .none) Q E s:=wpAny_isNot_plain rfl h
noncomputable def Hd (c:Cx) (A:Around) (env:Env) (hs:List ExceptHandler) (Q:Flow→Shared→Prop) (E:Value→Shared→Prop) (e:Value) (s:Shared):Prop :=
 wpAny c.M A (noteFrame e env) (fun _ s₂=>wpAny c.M A (setFlight e none) (fun _ s₃=>wpAny c.M A (handleBy e env hs) Q E s₃) E s₂) E s
theorem x_try {body orelse:List Stmt}{h₀:ExceptHandler}{hs:List ExceptHandler}{pos:Pos}{Q:Flow→Shared→Prop}
  (h:wpAny c.M A (execs body env) (Seq c A env orelse Q E) (Hd c A env (h₀::hs) Q E) s):wpAny c.M A (exec (.Try body (h₀::hs) orelse [] pos) env) Q E s :=
 wpAny_Try_except (wpAny_mono h (fun f s' z=>by cases f <;> exact z) fun _ _ z=>z)
theorem x_lti {a b:Int}{t u:Tok}{Q:Value→Shared→Prop} (h:Q (.bool (decide (a<b))) s):wpAny c.M A (compareOp .Lt (.int a t) (.int b u)) Q E s:=wpAny_lt_int h
theorem x_gti {a b:Int}{t u:Tok}{Q:Value→Shared→Prop} (h:Q (.bool (decide (b<a))) s):wpAny c.M A (compareOp .Gt (.int a t) (.int b u)) Q E s:=gt_int h
theorem x_or_cons {x:Expr}{rest:List Expr}{Q:Bool→Shared→Prop} (h:wpAny c.M A (PySem.isTrue x env (eval x env)) (fun b s₁=>Br b (Q true s₁) (wpAny c.M A (allTrue .Or rest env) Q E s₁)) E s) :
  wpAny c.M A (allTrue .Or (x::rest) env) Q E s:=wpAny_allTrue_Or_cons (wpAny_mono h (fun _ _ z=>z.ite) fun _ _ z=>z)
theorem x_and_cons {x:Expr}{rest:List Expr}{Q:Bool→Shared→Prop} (h:wpAny c.M A (PySem.isTrue x env (eval x env)) (fun b s₁=>Br b (wpAny c.M A (allTrue .And rest env) Q E s₁) (Q false s₁)) E s) :
  wpAny c.M A (allTrue .And (x::rest) env) Q E s:=wpAny_allTrue_And_cons (wpAny_mono h (fun _ _ z=>z.ite) fun _ _ z=>z)
theorem t_get {d:Addr}{kvs:List (Int × Value)}{k:Int}{t:Tok}{v:Value}{value slice:Expr}{Q:Value→Shared→Prop} (S:St c L s) (hd:(d,DI c kvs)∈L) (hl:valueAt kvs k=some v) (h:∀ s',St c L s'→Q v s')
  (hs:autoParam (subscripted slice false (.ref d) (.int k t)=operate [.ref d,.int k t] (getItem (.ref d) (.int k t))) aW) :
  wpAny c.M A (subscriptTail value slice (.ref d) (.int k t)) Q E s :=
 kba_turn (value':=.Name "" ⟨0,0,0,0⟩) (fun _=>rfl) (d_get S hd hl h hs fun _=>rfl)
theorem t_miss {d:Addr}{kvs:List (Int × Value)}{k:Int}{t:Tok}{value slice:Expr}{Q:Value→Shared→Prop} (S:St c L s) (hd:(d,DI c kvs)∈L) (hh:A.handled=none) (hl:valueAt kvs k=none)
  (h:∀ h' e tk,Heap.NewExc s.heap h' e "KeyError" → E (.ref e) ⟨h',s.gens,s.drawn,tk,s.os⟩)
  (hs:autoParam (subscripted slice false (.ref d) (.int k t)=operate [.ref d,.int k t] (getItem (.ref d) (.int k t))) aW) :
  wpAny c.M A (subscriptTail value slice (.ref d) (.int k t)) Q E s :=
 kba_turn (value':=.Name "" ⟨0,0,0,0⟩) (fun _=>rfl) (d_miss S hd hh hl h hs fun _=>rfl)
end
end
section
section

set_option genInjectivity false in
structure TCfg (c:Cx) where
 K:Ck c
 ca:Addr
 cd:Addr
 dd:Addr
 lk:Addr
 tm:Addr
 td:Addr
 root:Nd
 room:Int
 rtk:Tok
 last:Int
 ltk:Tok
variable {q:TCfg c}
noncomputable abbrev TCfg.D (q:TCfg c) (cs:Value):List (Nat × Value):=[(4,.ref q.dd),(5,cs),(6,.int q.room q.rtk),(39,.ref q.tm),(53,.ref q.root.a),(55,.ref q.lk),(56,.int q.last q.ltk)]

theorem T_delitem {data:List (Int × Value)}{n:Int}{tk kt:Tok}{key:Int} (S:St c ((q.ca,InstP 1155 q.cd)::(q.cd,Dm (q.D (.int n tk)))::(q.dd,DI c data)::L) s) (hr:A.depth<recursionLimit)
  (hl:(valueAt data key).isSome=true) (hz:data.length≤1000)
  (h:∀ tk' s',St c ((q.ca,InstP 1155 q.cd)::(q.cd,Dm (q.D (.int (n-1) tk')))::(q.dd,DI c (without data key))::L) s'→R (.ok (.ret .none)) s') :
  codeAny c.M A (.call (.ref 777) ⟨[.ref q.ca,.int key kt],[]⟩) R s:=by
 refine f_call fn777 [(1,.ref q.ca),(11,.int key kt)] S hr (by rfl) (by kernel_rfl!) (by kernel_rfl!) ?_
 intro fr s S
 have F:=fn777
 walk_at "g"
 refine d_del ‹_› (by walk_at "r") hl hz ?_
 intro _ _
 walk_at "g"
 rename_i S
 exact h _ _ (S.drop.perm (by exact ixd [0,0] rfl))

theorem T_getitem {data:List (Int × Value)}{cs v:Value}{kt:Tok}{key:Int} (S:St c ((q.ca,InstP 1155 q.cd)::(q.cd,Dm (q.D cs))::(q.dd,DI c data)::L) s) (hr:A.depth<recursionLimit)
  (hl:valueAt data key=some v)
  (h:∀ s',St c ((q.ca,InstP 1155 q.cd)::(q.cd,Dm (q.D cs))::(q.dd,DI c data)::L) s'→R (.ok (.ret v)) s') :
  codeAny c.M A (.call (.ref 763) ⟨[.ref q.ca,.int key kt],[]⟩) R s:=by
 refine f_call fn763 [(1,.ref q.ca),(11,.int key kt)] S hr (by rfl) (by kernel_rfl!) (by kernel_rfl!) ?_
 intro fr s S
 have F:=fn763
 walk_at "g"
 refine t_get ‹_› (by walk_at "m") hl ?_
 intro _ _
 walk_at "g"
 rename_i S
 exact h _ (S.drop)

theorem T_len {data:List (Int × Value)}{cs:Value} (S:St c ((q.ca,InstP 1155 q.cd)::(q.cd,Dm (q.D cs))::(q.dd,DI c data)::L) s) (hr:A.depth<recursionLimit) (hz:data.length≤1000)
  (h:∀ tk s',St c ((q.ca,InstP 1155 q.cd)::(q.cd,Dm (q.D cs))::(q.dd,DI c data)::L) s'→R (.ok (.ret (.int data.length tk))) s') :
  codeAny c.M A (.call (.ref 805) ⟨[.ref q.ca],[]⟩) R s:=by
 refine f_call fn805 [(1,.ref q.ca)] S hr (by rfl) (by kernel_rfl!) (by kernel_rfl!) ?_
 intro fr s S
 have F:=fn805
 walk_at "g"
 refine d_len ‹_› (by walk_at "m") hz ?_
 intro _ _ S
 walk_at "g"
 exact h _ _ (S.drop)
end
end
section
theorem neTCfg {c:Cx}:Nonempty (TCfg c):=(@neCk c).elim fun K=>⟨⟨K,0,0,0,0,0,0,⟨0,0,default,default⟩,0,default,0,default⟩⟩
end
section

noncomputable def cut (as:List Addr) (h:Heap):Heap:=⟨h.objs.mapIdx fun i o=>if i∈as then { cls:=.none,data:=.freed } else o,h.life⟩
theorem cut_in {as:List Addr}{h:Heap}{a:Addr} (ha:a∈as):(cut as h).get? a=none:=by
 unfold cut Heap.get?
 simp only [Array.getElem?_mapIdx]
 cases h.objs[a]? with
 | none=>rfl
 | some o=>simp [ha]
theorem cut_out {as:List Addr}{h:Heap}{a:Addr} (ha:a ∉ as):(cut as h).get? a=h.get? a:=by
 unfold cut Heap.get?
 simp only [Array.getElem?_mapIdx]
 cases h.objs[a]? with
 | none=>rfl
 | some o=>simp [ha]
theorem cut_sub {as:List Addr}{h:Heap}{a:Addr}{o:Obj} (e:(cut as h).get? a=some o):h.get? a=some o∧a ∉ as:=by
 by_cases ha:a∈as
 ·rw [cut_in ha] at e; cases e
 ·rw [cut_out ha] at e; exact ⟨e,ha⟩

theorem key_inj {L:List Cell} (nd:(L.map (·.1)).Nodup) {p q:Cell} (hp:p∈L) (hq:q∈L) (e:p.1=q.1):p=q:=by
 induction L with
 | nil=>cases hp
 | cons r L ih =>
  rw [List.map_cons,List.nodup_cons] at nd
  rcases List.mem_cons.mp hp with h1 | h1
  ·rcases List.mem_cons.mp hq with h2 | h2
   ·exact h1.trans h2.symm
   ·exact (nd.1 (List.mem_map.mpr ⟨q,h2,by rw [← e,h1]⟩)).elim
  ·rcases List.mem_cons.mp hq with h2 | h2
   ·exact (nd.1 (List.mem_map.mpr ⟨p,h1,by rw [e,h2]⟩)).elim
   ·exact ih nd.2 h1 h2
noncomputable def Frs (A:Around) (L:List Cell):Prop:=∃ envs,A.frames=some envs∧∀ env∈envs,env.scope.kind=.function∧∃ fr l,env.frame=some fr∧(fr,Nm l)∈L
section
variable {f fr:Addr}{fd:FuncData}{tbl:List (Nat × NameKind)}{l:List (Nat × Value)}{env:Env}
theorem Frs.sub (h:Frs A L) (hs:∀ p∈L,p∈L'):Frs A L':=by
 obtain ⟨envs,h1,h2⟩:=h
 refine ⟨envs,h1,fun env he=>?_⟩
 obtain ⟨k,fr,l,a,b⟩:=h2 env he
 exact ⟨k,fr,l,a,hs _ b⟩
theorem Frs.in1 (h:Frs A L):Frs A.in1 L:=h
theorem Frs.deeper (F:Fn f fd tbl) (h:Frs A L):Frs (A.deeper (envF f fd fr)) ((fr,Nm l)::L):=by
 obtain ⟨envs,h1,h2⟩:=h
 refine ⟨envF f fd fr::envs,?_,fun env he=>?_⟩
 ·show Option.map _ _=_
  rw [h1]; rfl
 ·rcases List.mem_cons.mp he with rfl | he
  ·exact ⟨F.kind,fr,l,rfl,.head _⟩
  ·obtain ⟨k,fr',l',a,b⟩:=h2 env he
   exact ⟨k,fr',l',a,.tail _ b⟩

structure Tv (c:Cx) (L:List Cell) (e:Addr) (cls v:Value) (s:Shared):Prop where
 St:St c L s
 there:∃ oe vs T oT ts,s.heap.get? e=some oe∧oe.cls=cls∧oe.data=.fields vs∧vs[1]? = some (.ref T)∧T≠e∧s.heap.get? T=some oT∧oT.data=.fields ts∧ts[3]? = some v ∧
  c.h₀.get? e=none∧c.h₀.get? T=none∧e ∉ L.map (·.1)∧T ∉ L.map (·.1)∧e ∉ c.k.map (·.1)∧T ∉ c.k.map (·.1)
noncomputable abbrev Tr (c:Cx) (L:List Cell) (e:Addr) (cls:Value) (s:Shared):Prop:=Tv c L e cls .none s
structure Nx (c:Cx) (L:List Cell) (e:Addr) (cls:Value) (s:Shared):Prop where
 St:St c L s
 there:∃ oe vs,s.heap.get? e=some oe∧oe.cls=cls∧oe.data=.fields vs∧vs[1]? = some .none∧c.h₀.get? e=none∧e ∉ L.map (·.1)∧e ∉ c.k.map (·.1)

theorem Nm.notFields {o:Obj} (h:Nm l o):∀ vs,o.data≠.fields vs:=by
 obtain ⟨m,⟨es,ep,e,_⟩,_⟩:=h
 intro vs
 rw [e]
 exact fun z=>nomatch z

theorem Nx.of {T:String}{h':Heap}{e:Addr}{g:Array GenState}{d:Drawn}{t:Nat}{os:OsState} (S:Mine.St c L s) (hf:∃ p∈L,True) (x:Heap.NewExc s.heap h' e T) (hg:g=s.gens) (hos:autoParam (os=s.os) aR):Nx c L e (.type T) ⟨h',g,d,t,os⟩:=by
 obtain ⟨keeps,new,ob,t',h1,h2,h3⟩:=x
 have S':Mine.St c L ⟨h',g,d,t,os⟩:=by
  refine ⟨S.ok,fun b o h=>keeps b o (S.base b o h),fun p hp=>?_,S.apart,S.nodup,hg.trans S.gens,S.low,?_,fun p hp=>keeps _ _ (S.kept p hp),S.apK,hos.trans S.os⟩
  ·obtain ⟨o,a,b⟩:=S.cells p hp
   exact ⟨o,keeps _ _ a,b⟩
  ·obtain ⟨p,hp,_⟩:=hf
   obtain ⟨o,a,b⟩:=S.cells p hp
   exact Nat.le_trans (S.low p hp) (Nat.le_of_lt (Heap.lt_size (keeps _ _ a)))
 refine ⟨S',ob,_,h1,h2,h3,rfl,?_,fun hm=>?_,fun hm=>?_⟩
 ·cases q:c.h₀.get? e with
  | none=>rfl
  | some o=>rw [S.base _ _ q] at new; cases new
 ·obtain ⟨p,hp,rfl⟩:=List.mem_map.mp hm
  obtain ⟨o,a,_⟩:=S.cells p hp
  rw [a] at new; cases new
 ·obtain ⟨p,hp,rfl⟩:=List.mem_map.mp hm
  rw [S.kept p hp] at new; cases new

theorem Frs.fun_ {envs:List Env}{base:Heap} (S:St c L s) (h2:∀ env∈envs,env.scope.kind=.function∧∃ fr l,env.frame=some fr∧(fr,Nm l)∈L) (hb:∀ b∈envs.filterMap (·.frame),base.get? b=none) :
  s.heap.FunFrames base envs:=by
 induction envs with
 | nil=>trivial
 | cons env envs ih =>
  obtain ⟨k,fr,l,a,b⟩:=h2 env (.head _)
  obtain ⟨o,ho,q⟩:=S.get b
  refine ⟨by rw [k]; decide,⟨fr,o,a,hb fr ?_,ho,q.notFields⟩,ih (fun e he=>h2 e (.tail _ he)) fun x hx=>hb x ?_⟩
  ·rw [List.filterMap_cons,a]; exact .head _
  ·rw [List.filterMap_cons,a]; exact .tail _ hx

theorem St.left {envs:List Env}{e T0:Addr}{cls:Value}{h':Heap} (S:St c L s) (h2:∀ env∈envs,env.scope.kind=.function∧∃ fr l,env.frame=some fr∧(fr,Nm l)∈L)
  (he:e ∉ L.map (·.1)) (hT:T0 ∉ L.map (·.1)) (he0:c.h₀.get? e=none) (hT0:c.h₀.get? T0=none) (hek:e ∉ c.k.map (·.1)) (hTk:T0 ∉ c.k.map (·.1))
  (x:Heap.Left (cut (e::T0::envs.filterMap (·.frame)) s.heap) envs e cls s.heap h') (hf:∃ p∈L,True) {d:Drawn}{t:Nat}{os:OsState} (hos:autoParam (os=s.os) aR):Tr c L e cls ⟨h',s.gens,d,t,os⟩:=by
 obtain ⟨stays,ff,tr,keep⟩:=x
 have framecell:∀ b∈envs.filterMap (·.frame),∃ l,(b,Nm l)∈L:=by
  intro b hb
  obtain ⟨env,h3,h4⟩:=List.mem_filterMap.mp hb
  obtain ⟨_,fr,l,a,q⟩:=h2 env h3
  rw [h4] at a; cases a
  exact ⟨l,q⟩
 have base:∀ b o,c.h₀.get? b=some o→h'.get? b=some o:=by
  intro b o hb
  refine stays b o ((cut_out ?_).trans (S.base b o hb))
  intro hm
  rcases List.mem_cons.mp hm with rfl | hm
  ·rw [he0] at hb; cases hb
  rcases List.mem_cons.mp hm with rfl | hm
  ·rw [hT0] at hb; cases hb
  obtain ⟨l,hl⟩:=framecell b hm
  rw [S.apart _ hl] at hb; cases hb
 have cells:∀ p∈L,∃ o,h'.get? p.1=some o∧p.2 o:=by
  intro p hp
  obtain ⟨o,a,q⟩:=S.cells p hp
  by_cases hm:p.1∈envs.filterMap (·.frame)
  ·obtain ⟨l,hl⟩:=framecell _ hm
   have same:p=(p.1,Nm l):=by
    have nd:=S.nodup
    exact Mine.key_inj nd hp hl rfl
   rw [same] at q
   obtain ⟨sl,z⟩:=keep _ o a q.notFields
   refine ⟨_,z,?_⟩
   rw [same]
   exact q
  ·refine ⟨o,stays _ _ ((cut_out ?_).trans a),q⟩
   intro z
   rcases List.mem_cons.mp z with z | z
   ·exact he (z ▸ List.mem_map_of_mem hp)
   rcases List.mem_cons.mp z with z | z
   ·exact hT (z ▸ List.mem_map_of_mem hp)
   exact hm z
 have kept:∀ p∈c.k,(cut (e::T0::envs.filterMap (·.frame)) s.heap).get? p.1=some p.2:=by
  intro p hp
  refine (cut_out fun z=>?_).trans (S.kept p hp)
  rcases List.mem_cons.mp z with z | z
  ·exact hek (z ▸ List.mem_map_of_mem hp)
  rcases List.mem_cons.mp z with z | z
  ·exact hTk (z ▸ List.mem_map_of_mem hp)
  obtain ⟨l,hl⟩:=framecell _ z
  exact S.apK _ hl (List.mem_map_of_mem hp)
 have S':St c L ⟨h',s.gens,d,t,os⟩:=⟨S.ok,base,cells,S.apart,S.nodup,S.gens,S.low,(by
  obtain ⟨p,hp,_⟩:=hf
  obtain ⟨o,a,_⟩:=cells p hp
  exact Nat.le_trans (S.low p hp) (Nat.le_of_lt (Heap.lt_size a))),fun p hp=>stays _ _ (kept p hp),S.apK,hos.trans S.os⟩
 obtain ⟨oe',vs',T,oT,ts,t1,t2,t3,t4,t5,t6,t7,t8,t9⟩:=tr
 refine ⟨S',oe',vs',T,oT,ts,t1,t2,t3,t4,t6,t7,t8,t9,he0,?_,he,fun hm=>?_,hek,fun hm=>?_⟩
 ·cases q:c.h₀.get? T with
  | none=>rfl
  | some o =>
   have:=base T o q
   have h3:(cut (e::T0::envs.filterMap (·.frame)) s.heap).get? T=some o:=by
    refine (cut_out fun hm=>?_).trans (S.base T o q)
    rcases List.mem_cons.mp hm with rfl | hm
    ·rw [he0] at q; cases q
    rcases List.mem_cons.mp hm with rfl | hm
    ·rw [hT0] at q; cases q
    obtain ⟨l,hl⟩:=framecell _ hm
    rw [S.apart _ hl] at q; cases q
   rw [t5] at h3; cases h3
 ·obtain ⟨p,hp,e2⟩:=List.mem_map.mp hm
  obtain ⟨o,a,q⟩:=S.cells p hp
  by_cases hm2:p.1∈envs.filterMap (·.frame)
  ·obtain ⟨l,hl⟩:=framecell _ hm2
   have same:p=(p.1,Nm l):=Mine.key_inj S.nodup hp hl rfl
   rw [same] at q
   obtain ⟨sl,z⟩:=keep _ o a q.notFields
   rw [← e2,z] at t7
   cases t7
   exact q.notFields ts t8
  ·have h3:(cut (e::T0::envs.filterMap (·.frame)) s.heap).get? T=some o:=by
    rw [← e2]
    refine (cut_out fun z=>?_).trans a
    rcases List.mem_cons.mp z with z | z
    ·exact he (z ▸ List.mem_map_of_mem hp)
    rcases List.mem_cons.mp z with z | z
    ·exact hT (z ▸ List.mem_map_of_mem hp)
    exact hm2 z
   rw [t5] at h3; cases h3
 ·obtain ⟨p,hp,e2⟩:=List.mem_map.mp hm
  have h3:=kept p hp
  rw [e2,t5] at h3; cases h3
end
end
section
section
variable {f fr e:Addr}{cls:Value}{fd:FuncData}{tbl:List (Nat × NameKind)}{l:List (Nat × Value)}{env:Env}

noncomputable def Top (A:Around) (env:Env):Prop:=∃ outer,A.frames=some (env::outer)
theorem Top.deeper (h:Frs A L):Top (A.deeper env) env:=by
 obtain ⟨envs,h1,_⟩:=h
 refine ⟨envs,?_⟩
 show Option.map _ _=_
 rw [h1]; rfl
theorem Frs.some_ (H:Frs A L) (ht:Top A env):∃ p∈L,True:=by
 obtain ⟨envs,h1,h2⟩:=H
 obtain ⟨outer,h3⟩:=ht
 rw [h1] at h3
 cases h3
 obtain ⟨_,fr,l,_,b⟩:=h2 env (.head _)
 exact ⟨_,b,trivial⟩
theorem stays_cut (as:List Addr):(cut as s.heap).StaysIn s.heap:=fun _ _ h=>(cut_sub h).1

noncomputable def hd_new_P (hs:List ExceptHandler) (Q:Flow→Shared→Prop):Prop:=∀ (X:Nx c L e cls s) (H:Frs A L) (ht:Top A env) (hf:env.frame=some fr) (h:∀ s',Tr c L e cls s'→wpAny c.M A (handleBy (.ref e) env hs) Q E s'),Hd c A env hs Q E (.ref e) s
theorem hd_new {hs:List ExceptHandler}{Q:Flow→Shared→Prop}:@hd_new_P c L s A E fr e cls env hs Q:=by
 revert c L s A E fr e cls env hs Q
 walk_at "e9"; intro c L s A E fr e cls env
 walk_at "e2"; intro hs Q
 intro X H ht hf h
 obtain ⟨S,oe,vs,h1,h2,h3,h4,h5,h6,h7⟩:=X
 have some_:=H.some_ ht
 obtain ⟨envs,a1,a2⟩:=H
 obtain ⟨outer,ht⟩:=ht
 rw [a1] at ht
 cases ht
 have ff:=Frs.fun_ (base:=cut (e::e::(env::outer).filterMap (·.frame)) s.heap) S a2 fun b hb=>cut_in (.tail _ (.tail _ hb))
 unfold Hd noteFrame
 simp only [hf]
 refine wpAny_bind (wpAny_field h1 h3 h4 ?_)
 rw [if_neg (by decide)]
 refine wpAny_newEntry a1 ff hf h1 (stays_cut _) (cut_in (.head _)) h3 (Array.getElem?_eq_some_iff.mp h4).1 fun h' x=>?_
 rw [h2] at x
 exact h _ (St.left S a2 h6 h6 h5 h5 h7 h7 x some_)
theorem Frs.mark (h:Frs A L) (v):Frs (A.mark v) L:=h
theorem Top.mark (h:Top A env) (v):Top (A.mark v) env:=h

theorem by_kind {T:String}{n:Str}{k:Nat}{np pos:Pos}{b₀:Stmt}{suite:List Stmt}{rest:List ExceptHandler}{Q:Flow→Shared→Prop} (X:Tr c L e (.type T) s) (F:Fn f fd tbl) (hx:N[k]? = some n) (hd:k≠0) (hk:tbl.lookup k=some .globalImplicit) (hg:btab.lookup k=some (.type T))
  (h1:isSubtype (.type T) (.type "BaseException")=pure true) (h2:isSubtype (.type (Option.elim (Manifest.find? T) "type" fun x=>Manifest.BuiltinType.metatype x)) (.type "tuple")=pure false) (h3:isSubtype (.type T) (.type T)=pure true)
  (h:∀ s',Tr c L e (.type T) s'→wpAny c.M (A.mark (some (.ref e))) (execs (b₀::suite) (envF f fd fr)) Q (notedBy c.M (A.mark (some (.ref e))) (envF f fd fr) (cameBackBy c.M A (envF f fd fr) E)) s') :
  wpAny c.M A (handleBy (.ref e) (envF f fd fr) (.ExceptHandler (some (.Name n np)) none (b₀::suite) pos::rest)) Q E s:=by
 obtain ⟨S,oe,vs,T1,oT,ts,t1,t2,t3,t4,t5,t6,t7,t8,t9,t10,t11,t12,t13,t14⟩:=X
 refine wpAny_handleBy_builtin (b:=true) h1 h2 h3 (e_builtin S F hx hd hk hg ⟨rfl,⟨oe,t1,t2⟩,?_⟩)
 rw [if_pos rfl]
 refine wpAny_setFlight_none t1 t3 t4 t6 t7 (Array.getElem?_eq_some_iff.mp t8).1 (h _ ?_)
 have hd:=Obj.data_mapFields t7 (·.setIfInBounds 3 Value.none)
 have u1:=Heap.get?_update_self (Obj.mapFields (·.setIfInBounds 3 Value.none)) t6 (Obj.isFreed_of_fields hd)
 have other:∀ b,b≠T1→(s.heap.update T1 (Obj.mapFields (·.setIfInBounds 3 Value.none))).get? b=s.heap.get? b:=fun b hb=>Heap.get?_update_other _ _ (Ne.symm hb)
 refine ⟨⟨S.ok,fun b o hb=>(other b fun z=>?_).trans (S.base b o hb),fun p hp=>?_,S.apart,S.nodup,S.gens,S.low,?_,fun p hp=>(other _ fun z=>t14 (z ▸ List.mem_map_of_mem hp)).trans (S.kept p hp),S.apK,S.os⟩,oe,vs,T1,_,_,(other e (Ne.symm t5)).trans t1,t2,t3,t4,t5,u1,hd,?_,t9,t10,t11,t12,t13,t14⟩
 ·rw [z,t10] at hb; cases hb
 ·obtain ⟨o,a,q⟩:=S.cells p hp
  exact ⟨o,(other _ fun z=>t12 (z ▸ List.mem_map_of_mem hp)).trans a,q⟩
 ·show _≤(s.heap.update T1 _).objs.size
  rw [(Heap.SameBut.update ..).1]; exact S.size
 ·have:=(Array.getElem?_eq_some_iff.mp t8).1
  simp [this]
end
end
section
section
variable {q:TCfg c}{env:Env}

theorem T_timer {cs:Value} (S:St c L s) (hx:(q.ca,InstP 1155 q.cd)∈L) (hd:(q.cd,Dm (q.D cs))∈L) (hr:A.depth<recursionLimit)
  (h:∀ s',St c L s'→R (.ok (.ret (.ref q.tm))) s'):codeAny c.M A (.call (.ref 973) ⟨[.ref q.ca],[]⟩) R s:=by
 refine f_call fn973 [(1,.ref q.ca)] S hr (by rfl) (by kernel_rfl!) (by kernel_rfl!) ?_
 intro fr s S
 have F:=fn973
 walk_at "g"
 rename_i S
 exact h _ S.drop
theorem e_timer {cs:Value}{ex:Bool}{Q:Value→Shared→Prop} (S:St c L s) (hx:(q.ca,InstP 1155 q.cd)∈L) (hd:(q.cd,Dm (q.D cs))∈L) (hr:A.depth<recursionLimit)
  (h:∀ s',St c L s'→Q (.ref q.tm) s'):wpAny c.M A (getAttr (.ref q.ca) (Str.ofString "timer") ex) Q E s:=by
 refine g_prop S hx cls1155 hd (by walk_at "i") (by rfl) fun s S=>?_
 refine T_timer S hx hd hr fun s S=>?_
 show wpAny _ _ (handedOut _) _ _ _
 rw [handedOut_of rfl]
 exact wpAny_pure (h _ S)
theorem timer_usual (P:Params):usualIn (Mine.K P) 1155 "timer" = true:=by kernel_rfl!
theorem timer_callOk (P:Params):callOk (Mine.K P) 929 898=true:=by kernel_rfl!
theorem m_now {cs:Value}{n t:Int}{pos:Pos}{pl:Sem Bool}{Q:Value→Shared→Prop}{L1 L2:List Cell}
  (S:St c L s) (hx:(q.ca,InstP 1155 q.cd)∈L) (hd:(q.cd,Dm (q.D cs))∈L)
  (p1:Pick (q.tm,InstP 929 q.td) L L1) (p2:Pick (q.td,Tmr q.K.clk n t) L1 L2) (hr:A.depth<recursionLimit) (hn:n≠0)
  (h:∀ tk s',St c ((q.tm,InstP 929 q.td)::(q.td,Tmr q.K.clk n t)::L2) s'→Q (.int t tk) s') :
  wpAny c.M A (getMethod (.ref q.ca) (Str.ofString "timer") pl) (fun fx s₂=>To c A env pos fx.1 fx.2 [] Q E s₂) E s:=by
 refine g_usual S hx hd timer_usual ?_
 refine e_timer S hx hd hr fun s S=>?_
 have S:=S.pick2 p1 p2
 obtain ⟨od,e,⟨i,q1⟩⟩:=S.get (.tail _ (.head _))
 refine To.inst (dx:=q.td) (l:=[(31,.ref q.K.clk),(32,.int n i.1),(33,.int t i.2)]) timer_callOk (.nil ⟨⟨_,S.change (P':=Dm [(31,.ref q.K.clk),(32,.int n i.1),(33,.int t i.2)]) (.there .here) (Heap.SameBut.refl _ _) ⟨od,e,q1⟩ rfl,.head _,.tail _ (.head _)⟩,?_⟩)
 exact timer_call_in S hr hn fun tk s S=>h tk s S

noncomputable def T_contains_there_P (rows:List (Int × Value)) (cs:Value) (nd:Nd) (nx pv:Addr) (n t e:Int) (etk kt:Tok) (key:Int):Prop:=∀ (S:St c ((q.ca,InstP 1155 q.cd)::(q.cd,Dm (q.D cs))::(q.lk,DI c rows)::(q.tm,InstP 929 q.td)::(q.td,Tmr q.K.clk n t)::(nd.a,Lk nd.dx (.int e etk) nd.k nx pv)::(nd.dx,Dm [])::L) s) (hr:A.depth+1<recursionLimit) (hn:n≠0) (hl:valueAt rows key=some (.ref nd.a)) (h:∀ s',St c ((q.ca,InstP 1155 q.cd)::(q.cd,Dm (q.D cs))::(q.lk,DI c rows)::(q.tm,InstP 929 q.td)::(q.td,Tmr q.K.clk n t)::(nd.a,Lk nd.dx (.int e etk) nd.k nx pv)::(nd.dx,Dm [])::L) s'→R (.ok (.ret (.bool (decide (t<e))))) s'),codeAny c.M A (.call (.ref 1084) ⟨[.ref q.ca,.int key kt],[]⟩) R s
theorem T_contains_there {rows:List (Int × Value)}{cs:Value}{nd:Nd}{nx pv:Addr}{n t e:Int}{etk kt:Tok}{key:Int}:@T_contains_there_P c L s A R q rows cs nd nx pv n t e etk kt key:=by
 revert c L s A R q rows cs nd nx pv n t e etk kt key
 walk_at "e5"; intro c L s A R
 walk_at "e9"; intro q rows cs nd nx pv n t e
 walk_at "e2"; intro etk kt
 walk_at "e1"; intro key
 intro S hr hn hl h
 refine f_call fn1084 [(1,.ref q.ca),(11,.int key kt)] S (by lia) (by rfl) (by kernel_rfl!) (by kernel_rfl!) ?_
 intro fr s S
 have F:=fn1084
 walk_at "g"
 refine t_get ‹_› (by walk_at "m") hl ?_
 intro _ _
 walk_at "g"
 refine m_now ‹_› (by walk_at "m") (by walk_at "m") (by walk_at "k") (by walk_at "k") hr hn ?_
 intro tk s S
 walk_at "g"
 rename_i S
 exact h _ ((S.dropAt (p:=(fr,_)) (by walk_at "k")).perm (by exact ixd [2,2,2] rfl))

noncomputable def T_contains_not_P (rows:List (Int × Value)) (cs:Value) (kt:Tok) (key:Int):Prop:=∀ (S:St c ((q.ca,InstP 1155 q.cd)::(q.cd,Dm (q.D cs))::(q.lk,DI c rows)::L) s) (H:Frs A L) (hh:A.handled=none) (hr:A.depth<recursionLimit) (hl:valueAt rows key=none) (h:∀ s',St c ((q.ca,InstP 1155 q.cd)::(q.cd,Dm (q.D cs))::(q.lk,DI c rows)::L) s'→R (.ok (.ret (.bool false))) s'),codeAny c.M A (.call (.ref 1084) ⟨[.ref q.ca,.int key kt],[]⟩) R s
theorem T_contains_not {rows:List (Int × Value)}{cs:Value}{kt:Tok}{key:Int}:@T_contains_not_P c L s A R q rows cs kt key:=by
 revert c L s A R q rows cs kt key
 walk_at "e5"; intro c L s A R
 walk_at "e5"; intro q rows cs kt key
 intro S H hh hr hl h
 refine f_call fn1084 [(1,.ref q.ca),(11,.int key kt)] S hr (by rfl) (by kernel_rfl!) (by kernel_rfl!) ?_
 intro fr s S
 have F:=fn1084
 have H1:Frs A ((q.ca,InstP 1155 q.cd)::(q.cd,Dm (q.D cs))::(q.lk,DI c rows)::L):=H.sub fun p hp=>.tail _ (.tail _ (.tail _ hp))
 have H2:=H1.deeper (fr:=fr) (l:=[(1,.ref q.ca),(11,.int key kt)].reverse) F
 have ht:=Top.deeper (env:=envF 1084 fd1084 fr) H1
 walk_at "g"
 rename_i S
 refine t_miss S (by walk_at "m") hh hl fun h' e tk x=>?_
 refine hd_new (Nx.of S ⟨_,.head _,trivial⟩ x rfl) H2 ht rfl fun s X=>?_
 refine by_kind X F (by walk_at "i") (by decide) (by rfl) (by rfl) (by rw [isSubtype_type]; kernel_rfl) (by rw [isSubtype_type]; kernel_rfl) (by rw [isSubtype_type]; kernel_rfl) fun s X=>?_
 walk_at "g"
 exact h _ X.St.drop
end
end
section
section
variable {q:TCfg c}{env:Env}
theorem keep763 (P:Params):keepIn (Mine.K P) (.ref 763)=true:=by kernel_rfl!

noncomputable def T_getitem_live_P (rows data:List (Int × Value)) (cs v:Value) (nd:Nd) (nx pv:Addr) (n t e:Int) (etk kt:Tok) (key:Int):Prop:=∀ (S:St c ((q.ca,InstP 1155 q.cd)::(q.cd,Dm (q.D cs))::(q.dd,DI c data)::(q.lk,DI c rows)::(q.tm,InstP 929 q.td)::(q.td,Tmr q.K.clk n t)::(nd.a,Lk nd.dx (.int e etk) nd.k nx pv)::(nd.dx,Dm [])::L) s) (hr:A.depth+1<recursionLimit) (hn:n≠0) (hl:valueAt rows key=some (.ref nd.a)) (hv:valueAt data key=some v) (ht:t<e) (hz:rows.length≤1000) (h:∀ s',St c ((q.ca,InstP 1155 q.cd)::(q.cd,Dm (q.D cs))::(q.dd,DI c data)::(q.lk,DI c (stored (without rows key) key (.ref nd.a)))::(q.tm,InstP 929 q.td)::(q.td,Tmr q.K.clk n t)::(nd.a,Lk nd.dx (.int e etk) nd.k nx pv)::(nd.dx,Dm [])::L) s'→R (.ok (.ret v)) s'),codeAny c.M A (.call (.ref 1092) ⟨[.ref q.ca,.int key kt],[]⟩) R s
theorem T_getitem_live {rows data:List (Int × Value)}{cs v:Value}{nd:Nd}{nx pv:Addr}{n t e:Int}{etk kt:Tok}{key:Int}:@T_getitem_live_P c L s A R q rows data cs v nd nx pv n t e etk kt key:=by
 revert c L s A R q rows data cs v nd nx pv n t e etk kt key
 walk_at "e5"; intro c L s A R
 walk_at "e9"; intro q rows data cs v nd nx pv n
 walk_at "e5"; intro t e etk kt key
 intro S hr hn hl hv ht hz h
 refine f_call fn1092 [(1,.ref q.ca),(11,.int key kt),(61,.ref 763)] S (by lia) (by rfl) (by kernel_rfl!) (by kernel_rfl!) ?_
 intro fr s S
 have F:=fn1092
 walk_at "g"
 refine t_get ‹_› (by exact ixm 4 rfl) hl ?_
 intro _ _
 walk_at "g"
 refine d_pop ‹_› (by walk_at "r") hl hz ?_
 intro _ _
 walk_at "g"
 have hz2:(without rows key).length≤1000:=Nat.le_trans (List.length_filter_le _ _) hz
 refine d_set ‹_› (by walk_at "r") hz2 ?_
 intro _ _
 walk_at "g"
 refine m_now ‹_› (by walk_at "m") (by walk_at "m") (by walk_at "k") (by walk_at "k") hr hn ?_
 intro tk s S
 walk_at "g"
 refine ⟨fun _=>?_,fun z=>absurd ht (of_decide_eq_false z)⟩
 walk_at "g"
 refine To.K keep763 ?_
 walk_at "g"
 refine ⟨⟨_,by assumption⟩,T_getitem (q:=q) (St.pick3 ‹_› (by walk_at "k") (by walk_at "k") (by walk_at "k")) hr hv ?_⟩
 intro s S
 walk_at "g"
 exact h _ ((S.dropAt (p:=(fr,_)) (by walk_at "k")).perm (by exact ixd [0,0,0,2] rfl))
end
end
section
section
variable {q:TCfg c}{env:Env}
theorem keep777 (P:Params):keepIn (Mine.K P) (.ref 777)=true:=by kernel_rfl!
theorem keep1059 (P:Params):keepIn (Mine.K P) (.ref 1059)=true:=by kernel_rfl!
theorem links_mem {nd:Nd}:∀ (ns:List Nd) (p n:Addr),nd∈ns→(∃ n' p',(nd.a,Lk nd.dx nd.e nd.k n' p')∈links p ns n)∧(nd.dx,Dm [])∈links p ns n
 | b::bs,p,n,h=>by
  rw [links_cons]
  rcases List.mem_cons.mp h with rfl | h
  ·exact ⟨⟨_,_,.head _⟩,.tail _ (.head _)⟩
  ·obtain ⟨⟨n',p',h1⟩,h2⟩:=links_mem bs b.a n h
   exact ⟨⟨n',p',.tail _ (.tail _ h1)⟩,.tail _ (.tail _ h2)⟩
theorem ring_mem {root nd:Nd}{rs:List Nd} (h:nd∈rs):(∃ n' p',(nd.a,Lk nd.dx nd.e nd.k n' p')∈Ring root rs)∧(nd.dx,Dm [])∈Ring root rs :=
 links_mem _ _ _ (.tail _ h)

theorem m_unlink {root nd:Nd}{xs ys:List Nd}{L':List Cell}{pos:Pos}{pl:Sem Bool}{Q:Value→Shared→Prop} (S:St c L s) (hG:PickG (Ring root (xs++nd::ys)) L L') (hr:A.depth<recursionLimit)
  (h:∀ n p s',St c (Ring root (xs++ys)++(nd.a,Lk nd.dx nd.e nd.k n p)::(nd.dx,Dm [])::L') s'→Q .none s') :
  wpAny c.M A (getMethod (.ref nd.a) (Str.ofString "unlink") pl) (fun fx s₂=>To c A env pos fx.1 fx.2 [] Q E s₂) E s:=by
 have S':=S.pickG hG
 obtain ⟨⟨n',p',m1⟩,m2⟩:=ring_mem (root:=root) (nd:=nd) (rs:=xs++nd::ys) (List.mem_append_right _ (.head _))
 refine g_methS S' (List.mem_append_left _ m1) cls1063 (List.mem_append_left _ m2) (by walk_at "i") (by rfl) ?_
 exact To.K keep1059 (.nil ⟨⟨_,S'⟩,unlink_ring S' hr fun n p s S=>h n p s S⟩)

noncomputable def T_del_live_P (rows data:List (Int × Value)) (nd:Nd) (xs ys:List Nd) (m n t e:Int) (mtk etk kt:Tok) (key:Int):Prop:=∀ (S:St c ((q.ca,InstP 1155 q.cd)::(q.cd,Dm (q.D (.int m mtk)))::(q.dd,DI c data)::(q.lk,DI c rows)::(q.tm,InstP 929 q.td)::(q.td,Tmr q.K.clk n t)::(Ring q.root (xs++nd::ys)++L)) s) (hr:A.depth+1<recursionLimit) (hn:n≠0) (hl:valueAt rows key=some (.ref nd.a)) (hv:(valueAt data key).isSome=true) (he:nd.e=.int e etk) (ht:t<e) (hz:rows.length≤1000) (hzd:data.length≤1000) (h:∀ tk s',St c ((q.ca,InstP 1155 q.cd)::(q.cd,Dm (q.D (.int (m-1) tk)))::(q.dd,DI c (without data key))::(q.lk,DI c (without rows key))::(q.tm,InstP 929 q.td)::(q.td,Tmr q.K.clk n t)::(Ring q.root (xs++ys)++L)) s'→R (.ok (.ret .none)) s'),codeAny c.M A (.call (.ref 1108) ⟨[.ref q.ca,.int key kt],[]⟩) R s
theorem T_del_live {rows data:List (Int × Value)}{nd:Nd}{xs ys:List Nd}{m n t e:Int}{mtk etk kt:Tok}{key:Int}:@T_del_live_P c L s A R q rows data nd xs ys m n t e mtk etk kt key:=by
 revert c L s A R q rows data nd xs ys m n t e mtk etk kt key
 walk_at "e5"; intro c L s A R
 walk_at "e9"; intro q rows data nd xs ys m n t
 walk_at "e5"; intro e mtk etk kt key
 intro S hr hn hl hv he ht hz hzd h
 obtain ⟨na,ndx,ne,nk⟩:=nd
 dsimp only at he hl
 subst he
 refine f_call fn1108 [(1,.ref q.ca),(11,.int key kt),(64,.ref 777)] S (by lia) (by rfl) (by kernel_rfl!) (by kernel_rfl!) ?_
 intro fr s S
 have F:=fn1108
 walk_at "g"
 refine To.K keep777 ?_
 walk_at "g"
 refine ⟨⟨_,by assumption⟩,T_delitem (q:=q) (St.pick3 ‹_› (by walk_at "k") (by walk_at "k") (by walk_at "k")) hr hv hzd ?_⟩
 intro tk s S
 walk_at "g"
 refine d_pop ‹_› (by walk_at "r") hl hz ?_
 intro _ _
 walk_at "g"
 refine m_unlink (nd:=⟨na,ndx,.int e etk,nk⟩) ‹_› (by walk_at "K") hr fun n' p' s S=>?_
 walk_at "g"
 refine m_now ‹_› (by exact ixn 0 2 rfl rfl) (by exact ixn 0 3 rfl rfl) (by walk_at "k") (by walk_at "k") hr hn ?_
 intro tk s S
 walk_at "g"
 rw [decide_eq_true ht]
 walk_at "g"
 refine Br.f ?_
 walk_at "g"
 rename_i S
 have S:=S.dropAt (p:=(fr,_)) (by walk_at "k")
 have S:=S.dropAt (p:=(na,_)) (by walk_at "D")
 have S:=S.dropAt (p:=(ndx,_)) (by walk_at "D")
 exact h _ _ (S.perm (by exact ixe 2 6 [2,2,2,2] rfl rfl rfl))
end
end
section
noncomputable def LiP (items:List Value) (o:Obj):Prop:=∃ n,o = { cls:=.type "list", data:=.seq items.toArray n }
noncomputable def TuP (items:List Value) (o:Obj):Prop:=o = { cls:=.type "tuple", data:=.seq items.toArray }
section
variable {env:Env}{a:Addr}{items:List Value}{v:Value}
theorem x_list {es:List Expr}{pos:Pos}{Q:Value→Shared→Prop} (ht:backTo pos (starEach es env)=trees env es)
  (h:Ev c A env E es (fun vs s₁=>∃ L,St c L s₁∧vs.length≤1000∧∀ a s',St c ((a,LiP vs)::L) s'→Q (.ref a) s') s):wpAny c.M A (eval (.List es pos) env) Q E s:=by
 refine wpAny_List ?_
 rw [ht]
 refine Ev.spliced (h.mono fun vs s₁ z=>?_)
 obtain ⟨L,S,hz,h⟩:=z
 exact ⟨by rw [sizeLine_eq]; lia,h _ _ (S.push _ rfl ⟨_,rfl⟩)⟩
theorem x_tup {es:List Expr}{k:Nat}{pos:Pos}{Q:Value→Shared→Prop} (ht:backTo pos (starEach es env)=trees env es)
  (h:Ev c A env E es (fun vs s₁=>∃ L,St c L s₁∧vs.length≤1000∧∀ a s',St c ((a,TuP vs)::L) s'→Q (.ref a) s') s):wpAny c.M A (eval (.Tuple es k pos) env) Q E s:=by
 refine wpAny_Tuple ?_
 rw [ht]
 refine Ev.spliced (h.mono fun vs s₁ z=>?_)
 obtain ⟨L,S,hz,h⟩:=z
 exact ⟨by rw [sizeLine_eq]; lia,h _ _ (S.push { cls:=.type "tuple", data:=.seq vs.toArray } rfl (P:=TuP vs) rfl)⟩
theorem St.plist (S:St c L s) (h:(a,LiP items)∈L):s.heap.PlainList a items.toArray:=by
 obtain ⟨o,e,n,rfl⟩:=S.get h
 exact ⟨n,e⟩
theorem l_append {Q:Value→Shared→Prop} (S:St c L s) (hd:Rep a (LiP items) (LiP (items++[v])) L L') (hz:items.length≤1000) (h:∀ s',St c L' s'→Q .none s') :
  wpAny c.M A (call (.builtin "list.append") [.ref a,v]) Q E s:=by
 refine wpAny_list_append_plain (S.plist hd.mem) (fun h' hl hs=>h _ (S.change (s':=⟨h',s.gens,s.drawn,s.toks,s.os⟩) hd hs ?_ rfl)) (by rw [List.size_toArray,sizeLine_eq]; lia)
 obtain ⟨n,e⟩:=hl
 exact ⟨_,e,n,by simp⟩
theorem l_meth {name:Str}{id:String}{pl:Sem Bool}{Q:Value × List Value→Shared→Prop} (S:St c L s) (hd:(a,LiP items)∈L) (slot:Slot "list" name id) (ty:typeOf (.builtin id)=pure (.type "method_descriptor")) (h:Q (.builtin id,[.ref a]) s) :
  wpAny c.M A (getMethod (.ref a) name pl) Q E s:=by
 obtain ⟨o,e,n,rfl⟩:=S.get hd
 exact getMethod_builtin (T := "list") ⟨_,e,rfl⟩ PySem.F.plainAttrs_list slot ty (fun b hb=>by cases hb; exact ⟨_,e,rfl⟩) h
theorem x_is_refs {x y:Addr}{Px Py:Obj→Prop}{Q:Value→Shared→Prop} (S:St c L s) (hx:(x,Px)∈L) (hy:(y,Py)∈L) (hn:x≠y) (hc:∀ o,Px o→o.cls≠.type "tuple") (h:Q (.bool false) s):wpAny c.M A (compareOp .Is (.ref x) (.ref y)) Q E s:=by
 obtain ⟨ox,ex,qx⟩:=S.get hx
 obtain ⟨oy,ey,qy⟩:=S.get hy
 exact wpAny_is_ref_other hn ex ey (hc _ qx) h
theorem x_isnot_refs {x y:Addr}{Px Py:Obj→Prop}{Q:Value→Shared→Prop} (S:St c L s) (hx:(x,Px)∈L) (hy:(y,Py)∈L) (hn:x≠y) (hc:∀ o,Px o→o.cls≠.type "tuple") (h:Q (.bool true) s):wpAny c.M A (compareOp .IsNot (.ref x) (.ref y)) Q E s:=by
 obtain ⟨ox,ex,qx⟩:=S.get hx
 obtain ⟨oy,ey,qy⟩:=S.get hy
 exact wpAny_isNot_ref_other hn ex ey (hc _ qx) h
noncomputable def clsOk (K:Frag) (C:Addr) (mc:Value) (n:Str) (v:Value):Bool:=readsIn K C mc && (match findCls K (.ref C) mc n with | some (.val w)=>w == v | _=>false) && handedIn v
theorem g_cls {C:Addr}{mc:Value}{name:Str}{ex:Bool}{Q:Value→Shared→Prop} (S:St c L s) (hc:∀ P,clsOk (Mine.K P) C mc name v=true) (h:∀ s',St c L s'→Q v s'):wpAny c.M A (getAttr (.ref C) name ex) Q E s:=by
 have hc:=hc c.P
 unfold clsOk at hc
 simp only [Bool.and_eq_true] at hc
 obtain ⟨⟨h1,h2⟩,h3⟩:=hc
 split at h2
 ·rename_i w hw
  rw [beq_iff_eq] at h2
  subst h2
  exact cls_value S.K h1 hw h3 (h _ (S.like rfl rfl))
 ·cases h2
theorem cls_getitem (P:Params):clsOk (Mine.K P) 865 (.ref 124) "__getitem__" (.ref 763)=true:=by kernel_rfl!
theorem cls_delitem (P:Params):clsOk (Mine.K P) 865 (.ref 124) "__delitem__" (.ref 777)=true:=by kernel_rfl!
theorem x_or_nil {Q:Bool→Shared→Prop} (h:Q false s):wpAny c.M A (allTrue .Or [] env) Q E s:=wpAny_allTrue_Or_nil h
theorem x_and_nil {Q:Bool→Shared→Prop} (h:Q true s):wpAny c.M A (allTrue .And [] env) Q E s:=wpAny_allTrue_And_nil h
theorem x_while {test:Expr}{body orelse:List Stmt}{pos:Pos}{Q:Flow→Shared→Prop} (I:Nat→Shared→Prop) (n:Nat) (h:I n s)
  (turn:∀ n s, I n s → wpAny c.M A (PySem.isTrue test env (eval test env)) (fun b s₂ => Br b (wpAny c.M A (execs body env) (fun f s₃ => match f with
      | .next | .cont=>∃ m,m<n∧I m s₃
      | .brk=>Q .next s₃
      | .ret v=>Q (.ret v) s₃) (notedBy c.M A env fun e s'=>cameBackBy c.M A env E e s') s₂)
    (wpAny c.M A (execs orelse env) (fun f s₃=>Q f s₃) (notedBy c.M A env fun e s'=>cameBackBy c.M A env E e s') s₂))
    (notedBy c.M A env fun e s'=>cameBackBy c.M A env E e s') s) :
  wpAny c.M A (exec (.While test body orelse pos) env) Q E s :=
 wpAny_While (codeAny_whileLoop I (fun n s hI=>wpAny_mono (turn n s hI) (fun b s₂ z=>z.ite) fun _ _ z=>z) n h)
end
end
section
section
variable {q:TCfg c}{env:Env}{fr:Addr}

noncomputable def bodyOf (fd:FuncData):List Stmt:=match fd.body with | .stmts b=>b | _=>[]
noncomputable def tail1138:List Stmt:=(bodyOf fd1138).tail
noncomputable def X_expire_empty_P (cs:Value) (t:Int) (ttk:Tok):Prop:=∀ (S:St c ((fr,Nm [(35,.int t ttk),(1,.ref q.ca)])::(q.ca,InstP 1155 q.cd)::(q.cd,Dm (q.D cs))::(Ring q.root []++L)) s) (hr:A.depth<recursionLimit) (h:∀ x s',St c ((x,LiP [])::(q.ca,InstP 1155 q.cd)::(q.cd,Dm (q.D cs))::(Ring q.root []++L)) s'→R (.ok (.ret (.ref x))) s'),wpAny c.M (A.deeper (envF 1138 fd1138 fr)) (execs tail1138 (envF 1138 fd1138 fr)) (Back R) (Fly c A (envF 1138 fd1138 fr) R) s
theorem X_expire_empty {cs:Value}{t:Int}{ttk:Tok}:@X_expire_empty_P c L s A R q fr cs t ttk:=by
 revert c L s A R q fr cs t ttk
 walk_at "e5"; intro c L s A R
 walk_at "e5"; intro q fr cs t ttk
 intro S hr h
 have F:=fn1138
 refine x_cons ?_
 unfold Ring at S h
 simp only [links_cons,links_nil,hd_nil,lst_nil,List.cons_append,List.nil_append] at S h
 walk_at "g"
 refine wpAny_is_ref_self ?_
 walk_at "g"
 rename_i S
 exact h _ _ ((S.dropAt (p:=(fr,_)) (by walk_at "k")).perm (by exact .refl _))
end
end
section
section
variable {q:TCfg c}{env:Env}{fr:Addr}

theorem SlP.notTuple {C dx:Addr}{sl:List (Option Value)} (o:Obj) (h:SlP C dx sl o):o.cls≠.type "tuple" := by
 cases h; exact fun z=>nomatch z

noncomputable def X_expire_none_P (cs:Value) (t e:Int) (ttk etk:Tok) (na ndx:Addr) (nk:Value) (bs:List Nd):Prop:=∀ (S:St c ((fr,Nm [(35,.int t ttk),(1,.ref q.ca)])::(q.ca,InstP 1155 q.cd)::(q.cd,Dm (q.D cs))::(Ring q.root (⟨na,ndx,.int e etk,nk⟩::bs)++L)) s) (hr:A.depth<recursionLimit) (ht:t<e) (h:∀ x s',St c ((x,LiP [])::(q.ca,InstP 1155 q.cd)::(q.cd,Dm (q.D cs))::(Ring q.root (⟨na,ndx,.int e etk,nk⟩::bs)++L)) s'→R (.ok (.ret (.ref x))) s'),wpAny c.M (A.deeper (envF 1138 fd1138 fr)) (execs tail1138 (envF 1138 fd1138 fr)) (Back R) (Fly c A (envF 1138 fd1138 fr) R) s
theorem X_expire_none {cs:Value}{t e:Int}{ttk etk:Tok}{na ndx:Addr}{nk:Value}{bs:List Nd}:@X_expire_none_P c L s A R q fr cs t e ttk etk na ndx nk bs:=by
 revert c L s A R q fr cs t e ttk etk na ndx nk bs
 walk_at "e5"; intro c L s A R
 walk_at "e9"; intro q fr cs t e ttk etk na ndx
 walk_at "e2"; intro nk bs
 intro S hr ht h
 have F:=fn1138
 refine x_cons ?_
 unfold Ring at S h
 simp only [links_cons,hd_cons,List.cons_append] at S h
 have ne:na≠q.root.a:=by
  have S2:=S.drop.drop.drop
  exact S2.ne (.tail _ (.head _))
 walk_at "g"
 refine x_is_refs ‹_› (by exact ixm 5 rfl) (by walk_at "m") ne SlP.notTuple ?_
 walk_at "g"
 rw [decide_eq_true ht]
 walk_at "g"
 rename_i S
 exact h _ _ ((S.dropAt (p:=(fr,_)) (by walk_at "k")).perm (by exact .refl _))

set_option genInjectivity false in
structure Dr where
 key:Int
 ktk:Tok
 val:Value
 e:Int
 etk:Tok
 a:Addr
 dx:Addr
noncomputable def Dr.nd (x:Dr):Nd:=⟨x.a,x.dx,.int x.e x.etk,.int x.key x.ktk⟩
noncomputable def Due (t:Int):List (Int × Value)→List (Int × Value)→List Dr→Prop
 | _,_,[]=>True
 | rows,data,x::xs=>valueAt rows x.key=some (.ref x.a)∧valueAt data x.key=some x.val∧¬ t<x.e∧Due t (without rows x.key) (without data x.key) xs
end
end
section
section
variable {q:TCfg c}{env:Env}{fr:Addr}
theorem ring_head {root x:Nd}{xs:List Nd}:(x.a,Lk x.dx x.e x.k (hd root.a xs) root.a)∈Ring root (x::xs)∧(x.dx,Dm [])∈Ring root (x::xs) :=
 ⟨.tail _ (.tail _ (.head _)),.tail _ (.tail _ (.tail _ (.head _)))⟩
theorem ring_root {root:Nd}{xs:List Nd}:(root.a,Lk root.dx root.e root.k (hd root.a xs) (lst root.a xs))∈Ring root xs:=.head _
theorem ring_rootd {root:Nd}{xs:List Nd}:(root.dx,Dm [])∈Ring root xs:=.tail _ (.head _)
noncomputable def outs (kvs:List (Int × Value)) (ex:List Dr):List (Int × Value):=ex.foldl (fun d x=>without d x.key) kvs

theorem look_app {l W:List (Nat × Value)}{j:Nat}:(l++W).lookup j=(l.lookup j).or (W.lookup j):=by
 induction l with
 | nil=>rfl
 | cons p l ih=>obtain ⟨i,v⟩:=p; cases h:j == i <;> simp [List.lookup,h,ih]
theorem Nm.sink {k:Nat}{v:Value}{l W:List (Nat × Value)}{o:Obj} (h:Nm ((k,v)::(l++W)) o) (e:l.lookup k=none):Nm (l++(k,v)::W) o:=by
 refine h.cong fun j=>?_
 rw [look_app]
 by_cases z:j=k
 ·subst z; simp [List.lookup,e]
 ·have z':(j == k)=false:=by simpa using z
  simp only [List.lookup,z',look_app]
theorem Nm.sink1 {a k:Nat}{u v w:Value}{l W:List (Nat × Value)}{o:Obj} (h:Nm ((a,v)::(k,w)::(a,u)::(l++W)) o) (n:k≠a) (e:l.lookup k=none):Nm ((a,v)::(l++(k,w)::W)) o:=by
 refine h.cong fun j=>?_
 by_cases z:j=a
 ·subst z; simp [List.lookup]
 ·have z':(j == a)=false:=by simpa using z
  by_cases y:j=k
  ·subst y; simp [List.lookup,z',look_app,e]
  ·have y':(j == k)=false:=by simpa using y
   simp only [List.lookup,z',y',look_app]
theorem Nm.dup {a:Nat}{v:Value}{l:List (Nat × Value)}{o:Obj} (h:Nm l o) (e:l.lookup a=some v):Nm ((a,v)::l) o:=by
 refine h.cong fun k=>?_
 by_cases h1:k=a
 ·subst h1; simp [List.lookup,e]
 ·have h1':(k == a)=false:=by simpa using h1
  simp [List.lookup,h1']
theorem m_unlink0 {root nd:Nd}{ys:List Nd}{L':List Cell}{pos:Pos}{pl:Sem Bool}{Q:Value→Shared→Prop} (S:St c L s) (hG:PickG (Ring root (nd::ys)) L L') (hr:A.depth<recursionLimit)
  (h:∀ n p s',St c (Ring root ys++(nd.a,Lk nd.dx nd.e nd.k n p)::(nd.dx,Dm [])::L') s'→Q .none s') :
  wpAny c.M A (getMethod (.ref nd.a) (Str.ofString "unlink") pl) (fun fx s₂=>To c A env pos fx.1 fx.2 [] Q E s₂) E s:=m_unlink (xs:=[]) S hG hr h
noncomputable def ExI (q:TCfg c) (L:List Cell) (t:Int) (fr xl:Addr) (l0:List (Nat × Value)) (live:List Nd) (dF rF:List (Int × Value)) (mF:Int) (tF:List (Value × Value)) (n:Nat) (s:Shared):Prop :=
 ∃ (ex:List Dr) (told:List (Addr × Value × Value)) (data rows:List (Int × Value)) (m:Int) (mtk:Tok) (W:List (Nat × Value)),n=ex.length∧Due t rows data ex∧data.length≤1000∧rows.length≤1000∧told.length+ex.length≤900 ∧
  outs data ex=dF∧outs rows ex=rF∧m-ex.length=mF∧told.map (·.2)++ex.map (fun x=>(.int x.key x.ktk,x.val))=tF ∧
  St c ((fr,Nm ((65,.ref (hd q.root.a (ex.map Dr.nd++live)))::(l0++W)))::(q.ca,InstP 1155 q.cd)::(q.cd,Dm (q.D (.int m mtk)))::(q.dd,DI c data)::(q.lk,DI c rows)::(xl,LiP (told.map fun x=>.ref x.1)) ::
   (told.map (fun x=>(x.1,TuP [x.2.1,x.2.2]))++(Ring q.root (ex.map Dr.nd++live)++L))) s

noncomputable def X_expire_due_P (data rows:List (Int × Value)) (m:Int) (mtk:Tok) (t:Int) (ttk:Tok) (x0:Dr) (xs:List Dr) (live:List Nd):Prop:=∀ (S:St c ((fr, Nm [(35, .int t ttk), (1, .ref q.ca)]) :: (q.ca, InstP 1155 q.cd) :: (q.cd, Dm (q.D (.int m mtk))) :: (q.dd, DI c data) :: (q.lk, DI c rows) :: (Ring q.root ((x0 :: xs).map Dr.nd ++ live) ++ L)) s) (hr:A.depth+1<recursionLimit) (hd:Due t rows data (x0 :: xs)) (hz:data.length≤1000) (hz2:rows.length≤1000) (hz3:(x0 :: xs).length≤900) (hlive:∀ b bs, live=b :: bs → ∃ e etk, b.e=.int e etk ∧ t<e) (h:∀ x tk' (told:List (Addr × Value × Value)) s', told.map (·.2)=(x0 :: xs).map (fun x => (.int x.key x.ktk, x.val)) →
   St c ((x,LiP (told.map fun x=>.ref x.1))::(told.map (fun x=>(x.1,TuP [x.2.1,x.2.2]))++((q.ca,InstP 1155 q.cd)::(q.cd,Dm (q.D (.int (m-(x0::xs).length) tk')))::(q.dd,DI c (outs data (x0::xs)))::(q.lk,DI c (outs rows (x0::xs)))::(Ring q.root live++L)))) s'→R (.ok (.ret (.ref x))) s'),wpAny c.M (A.deeper (envF 1138 fd1138 fr)) (execs tail1138 (envF 1138 fd1138 fr)) (Back R) (Fly c A (envF 1138 fd1138 fr) R) s
set_option maxHeartbeats 4000000 in
theorem X_expire_due {data rows:List (Int × Value)}{m:Int}{mtk:Tok}{t:Int}{ttk:Tok}{x0:Dr}{xs:List Dr}{live:List Nd}:@X_expire_due_P c L s A R q fr data rows m mtk t ttk x0 xs live:=by
 revert c L s A R q fr data rows m mtk t ttk x0 xs live
 walk_at "e5"; intro c L s A R
 walk_at "e9"; intro q fr data rows m mtk t ttk x0
 walk_at "e2"; intro xs live
 intro S hr hd hz hz2 hz3 hlive h
 have F:=fn1138
 refine x_cons ?_
 have m0:=ring_root (root:=q.root) (xs:=(x0::xs).map Dr.nd++live)
 have m0':=ring_rootd (root:=q.root) (xs:=(x0::xs).map Dr.nd++live)
 have m1:=(ring_head (root:=q.root) (x:=x0.nd) (xs:=xs.map Dr.nd++live)).1
 have m2:=(ring_head (root:=q.root) (x:=x0.nd) (xs:=xs.map Dr.nd++live)).2
 simp only [List.map_cons,List.cons_append,hd_cons] at S m0 m0' m1 m2
 have ne:x0.nd.a≠q.root.a:=by
  have S2:=S.drop.drop.drop.drop.drop
  unfold Ring at S2
  simp only [links_cons,List.cons_append] at S2
  exact S2.ne (.tail _ (.head _))
 walk_at "g"
 refine x_is_refs (Px:=Lk x0.dx (.int x0.e x0.etk) (.int x0.key x0.ktk) _ _) ‹_› (by walk_at "m") (by walk_at "m") ne SlP.notTuple ?_
 walk_at "g"
 show wpAny _ _ (compareOp CmpOp.Lt (Value.int t ttk) (Value.int x0.e x0.etk)) _ _ _
 walk_at "g"
 rw [decide_eq_false hd.2.2.1]
 walk_at "g"
 refine g_cls ‹_› cls_delitem fun s S=>?_
 walk_at "g"
 refine g_cls ‹_› cls_getitem fun s S=>?_
 walk_at "g"
 rename_i s' S
 obtain ⟨xl,S⟩ : ∃ xl,St c ((xl,LiP [])::(fr,Nm ((61,.ref 763)::(64,.ref 777)::(66,.ref xl)::(62,.ref q.lk)::(65,.ref x0.nd.a)::(54,.ref q.root.a)::[(1,.ref q.ca),(35,.int t ttk)].reverse))::(q.ca,InstP 1155 q.cd) ::
   (q.cd,Dm (q.D (.int m mtk)))::(q.dd,DI c data)::(q.lk,DI c rows)::(Ring q.root (x0.nd::(xs.map Dr.nd++live))++L)) s':=⟨_,S⟩
 refine x_while (ExI q L t fr xl [(61,.ref 763),(64,.ref 777),(66,.ref xl),(62,.ref q.lk),(65,.ref x0.nd.a),(54,.ref q.root.a),(35,.int t ttk),(1,.ref q.ca)] live (outs data (x0::xs)) (outs rows (x0::xs)) (m-(x0::xs).length) ((x0::xs).map fun x=>(.int x.key x.ktk,x.val)))
  (x0::xs).length ⟨x0::xs,[],data,rows,m,mtk,[],rfl,hd,hz,hz2,by simpa using hz3,rfl,rfl,rfl,rfl,?_⟩ fun n s hI=>?_
 ·have S:=(S.pick (p:=(fr,_)) (by walk_at "k")).weak (P':=Nm _) .here fun o q'=>Nm.dup (a:=65) (v:=.ref x0.nd.a) q' rfl
  exact S.perm (by exact ixd [0,1,1,1,1,0] rfl)
 ·obtain ⟨ex,told,data',rows',m',mtk',W,rfl,hd',hz',hz2',hz3',e1,e2,e3,e4,S⟩:=hI
  cases ex with
  | nil =>
   cases live with
   | nil =>
    simp only [List.map_nil,List.nil_append,List.append_nil,hd_nil] at S e4
    change data'=_ at e1
    change rows'=_ at e2
    subst e1 e2
    have e3':m'=m-(x0::xs).length:=by simpa using e3
    subst e3'
    simp only [List.nil_append,List.cons_append] at S
    walk_at "g"
    refine wpAny_isNot_ref_self ?_
    walk_at "g"
    have S:=S.dropAt (p:=(fr,_)) (by walk_at "k")
    exact h xl _ told _ e4 (S.perm (by walk_at "d"))
   | cons b bs =>
    obtain ⟨e,etk,he,hlt⟩:=hlive b bs rfl
    obtain ⟨ba,bdx,be,bk⟩:=b
    dsimp only at he
    subst he
    simp only [List.map_nil,List.nil_append,List.append_nil,hd_cons] at S e4
    change data'=_ at e1
    change rows'=_ at e2
    subst e1 e2
    have e3':m'=m-(x0::xs).length:=by simpa using e3
    subst e3'
    have k0:=ring_root (root:=q.root) (xs:=⟨ba,bdx,.int e etk,bk⟩::bs)
    have k0':=ring_rootd (root:=q.root) (xs:=⟨ba,bdx,.int e etk,bk⟩::bs)
    have k1:=(ring_head (root:=q.root) (x:=⟨ba,bdx,.int e etk,bk⟩) (xs:=bs)).1
    have k2:=(ring_head (root:=q.root) (x:=⟨ba,bdx,.int e etk,bk⟩) (xs:=bs)).2
    dsimp only at k1 k2
    have kne:ba≠q.root.a:=by
     have S2:=(S.pickG (G:=Ring q.root _) (by walk_at "K"))
     unfold Ring at S2
     simp only [links_cons,List.cons_append] at S2
     exact S2.ne (.tail _ (.head _))
    simp only [List.nil_append,List.cons_append] at S
    walk_at "g"
    refine x_isnot_refs (Px:=Lk bdx (.int e etk) bk _ _) ‹_› (by walk_at "m") (by walk_at "m") kne SlP.notTuple ?_
    walk_at "g"
    rw [decide_eq_true hlt]
    walk_at "g"
    refine Br.f ?_
    walk_at "g"
    rename_i S
    have S:=S.dropAt (p:=(fr,_)) (by walk_at "k")
    exact h xl _ told _ e4 (S.perm (by walk_at "d"))
  | cons x ex =>
   obtain ⟨d1,d2,d3,d4⟩:=hd'
   simp only [List.map_cons,List.cons_append,hd_cons] at S
   have k0:=ring_root (root:=q.root) (xs:=x.nd::(ex.map Dr.nd++live))
   have k0':=ring_rootd (root:=q.root) (xs:=x.nd::(ex.map Dr.nd++live))
   have k1:=(ring_head (root:=q.root) (x:=x.nd) (xs:=ex.map Dr.nd++live)).1
   have k2:=(ring_head (root:=q.root) (x:=x.nd) (xs:=ex.map Dr.nd++live)).2
   have kne:x.nd.a≠q.root.a:=by
    have S2:=(S.pickG (G:=Ring q.root _) (by walk_at "K"))
    unfold Ring at S2
    simp only [links_cons,List.cons_append] at S2
    exact S2.ne (.tail _ (.head _))
   simp only [List.nil_append,List.cons_append] at S
   walk_at "g"
   refine x_isnot_refs (Px:=Lk x.nd.dx x.nd.e x.nd.k _ _) ‹_› (by walk_at "m") (by walk_at "m") kne SlP.notTuple ?_
   walk_at "g"
   show wpAny _ _ (compareOp CmpOp.Lt (Value.int t ttk) (Value.int x.e x.etk)) _ _ _
   walk_at "g"
   rw [decide_eq_false d3]
   refine Br.t ?_
   walk_at "g"
   refine To.K keep763 ?_
   walk_at "g"
   refine ⟨⟨_,by assumption⟩,T_getitem (q:=q) (key:=x.key) (kt:=x.ktk) (St.pick3 ‹_› (by walk_at "k") (by walk_at "k") (by walk_at "k")) hr d2 ?_⟩
   intro s S
   walk_at "g"
   refine l_append ‹_› (by walk_at "r") (by rw [List.length_map]; rw [List.length_cons] at hz3'; lia) ?_
   intro _ _
   walk_at "g"
   refine To.K keep777 ?_
   walk_at "g"
   refine ⟨⟨_,by assumption⟩,T_delitem (q:=q) (key:=x.key) (kt:=x.ktk) (St.pick3 ‹_› (by walk_at "k") (by walk_at "k") (by walk_at "k")) hr (by rw [d2]; rfl) hz' ?_⟩
   intro tk s S
   walk_at "g"
   show wpAny _ _ (delItem (.ref q.lk) (.int x.key x.ktk)) _ _ _
   refine d_del ‹_› (by walk_at "r") (by rw [d1]; rfl) hz2' ?_
   intro _ _
   walk_at "g"
   refine m_unlink0 (nd:=x.nd) ‹_› (by walk_at "K") hr fun n' p' s S=>?_
   walk_at "g"
   rename_i S
   have S:=S.dropAt (p:=(x.nd.a,_)) (by walk_at "k")
   have S:=S.dropAt (p:=(x.nd.dx,_)) (by walk_at "k")
   have S:=(S.pick (p:=(fr,_)) (by walk_at "k")).weak (P':=Nm ((65,.ref (Mine.hd q.root.a (ex.map Dr.nd++live)))::([(61,.ref 763),(64,.ref 777),(66,.ref xl),(62,.ref q.lk),(65,.ref x0.nd.a),(54,.ref q.root.a),(35,.int t ttk),(1,.ref q.ca)]++(48,.ref (Mine.hd q.root.a (ex.map Dr.nd++live)))::W))) .here (fun o q'=>by exact Nm.sink1 (l:=[(61,.ref 763),(64,.ref 777),(66,.ref xl),(62,.ref q.lk),(65,.ref x0.nd.a),(54,.ref q.root.a),(35,.int t ttk),(1,.ref q.ca)]) q' (by decide) rfl)
   refine' ⟨ex.length,Nat.lt_succ_self _,ex,told++[(_,.int x.key x.ktk,x.val)],without data' x.key,without rows' x.key,m'-1,tk,(48,.ref (Mine.hd q.root.a (ex.map Dr.nd++live)))::W,rfl,d4,Nat.le_trans (List.length_filter_le _ _) hz',Nat.le_trans (List.length_filter_le _ _) hz2',?len,e1,e2,?m,?told,?st⟩
   case st =>
    simp only [List.map_append,List.map_cons,List.map_nil,List.cons_append,List.nil_append,List.append_assoc]
    exact S.perm (by walk_at "d")
   case len=>simp only [List.length_append,List.length_cons,List.length_nil] at hz3' ⊢; lia
   case m=>simp only [List.length_cons] at e3 ⊢; lia
   case told=>rw [← e4]; simp
end
end
section
section
variable {q:TCfg c}{env:Env}{fr:Addr}
noncomputable def Nxt (P:Shared→Prop) (f:Flow) (s:Shared):Prop:=f=.next∧P s
theorem Nxt.ok {P:Shared→Prop} (h:P s):Nxt P .next s:=⟨rfl,h⟩
theorem x_cut {st:Stmt}{rest:List Stmt}{Q:Flow→Shared→Prop} (P:Shared→Prop) (h:wpAny c.M A (exec st env) (Nxt P) E s) (h2:∀ s',P s'→wpAny c.M A (execs rest env) Q E s'):wpAny c.M A (execs (st::rest) env) Q E s :=
 x_cons (wpAny_mono h (fun f s' z=>by obtain ⟨rfl,z⟩:=z; exact h2 _ z) fun _ _ z=>z)

noncomputable def X_expire_P (data rows:List (Int × Value)) (m:Int) (mtk:Tok) (t:Int) (ttk:Tok) (xs:List Dr) (live:List Nd):Prop:=∀ (S:St c ((fr, Nm [(35, .int t ttk), (1, .ref q.ca)]) :: (q.ca, InstP 1155 q.cd) :: (q.cd, Dm (q.D (.int m mtk))) :: (q.dd, DI c data) :: (q.lk, DI c rows) :: (Ring q.root (xs.map Dr.nd ++ live) ++ L)) s) (hr:A.depth+1<recursionLimit) (hd:Due t rows data xs) (hz:data.length≤1000) (hz2:rows.length≤1000) (hz3:xs.length≤900) (hlive:∀ b bs, live=b :: bs → ∃ e etk, b.e=.int e etk ∧ t<e) (h:∀ x tk' (told:List (Addr × Value × Value)) s', told.map (·.2)=xs.map (fun x => (.int x.key x.ktk, x.val)) →
   St c ((x,LiP (told.map fun x=>.ref x.1))::(told.map (fun x=>(x.1,TuP [x.2.1,x.2.2]))++((q.ca,InstP 1155 q.cd)::(q.cd,Dm (q.D (.int (m-xs.length) tk')))::(q.dd,DI c (outs data xs))::(q.lk,DI c (outs rows xs))::(Ring q.root live++L)))) s'→R (.ok (.ret (.ref x))) s'),wpAny c.M (A.deeper (envF 1138 fd1138 fr)) (execs tail1138 (envF 1138 fd1138 fr)) (Back R) (Fly c A (envF 1138 fd1138 fr) R) s
theorem X_expire {data rows:List (Int × Value)}{m:Int}{mtk:Tok}{t:Int}{ttk:Tok}{xs:List Dr}{live:List Nd}:@X_expire_P c L s A R q fr data rows m mtk t ttk xs live:=by
 revert c L s A R q fr data rows m mtk t ttk xs live
 walk_at "e5"; intro c L s A R
 walk_at "e9"; intro q fr data rows m mtk t ttk xs
 walk_at "e1"; intro live
 intro S hr hd hz hz2 hz3 hlive h
 cases xs with
 | cons x0 xs=>exact X_expire_due S hr hd hz hz2 hz3 hlive h
 | nil =>
  simp only [List.map_nil,List.nil_append] at S
  have S1:St c ((fr,Nm [(35,.int t ttk),(1,.ref q.ca)])::(q.ca,InstP 1155 q.cd)::(q.cd,Dm (q.D (.int m mtk)))::(Ring q.root live++((q.dd,DI c data)::(q.lk,DI c rows)::L))) s:=S.perm (by exact ixe 5 3 [] rfl rfl rfl)
  have fin:∀ x s',St c ((x,LiP [])::(q.ca,InstP 1155 q.cd)::(q.cd,Dm (q.D (.int m mtk)))::(Ring q.root live++((q.dd,DI c data)::(q.lk,DI c rows)::L))) s'→R (.ok (.ret (.ref x))) s':=by
   intro x s' S
   refine h x mtk [] s' rfl ?_
   have e:m-(([] : List Dr).length:Int)=m:=by simp
   rw [e]
   show St c ((x,LiP [])::(q.ca,InstP 1155 q.cd)::(q.cd,Dm (q.D (.int m mtk)))::(q.dd,DI c data)::(q.lk,DI c rows)::(Ring q.root live++L)) s'
   exact S.perm (by exact ixe 3 5 [] rfl rfl rfl)
  cases live with
  | nil=>exact X_expire_empty S1 (by lia) fin
  | cons b bs =>
   obtain ⟨e,etk,he,hlt⟩:=hlive b bs rfl
   obtain ⟨ba,bdx,be,bk⟩:=b
   dsimp only at he
   subst he
   exact X_expire_none S1 (by lia) hlt fin

theorem T_expire {data rows:List (Int × Value)}{m:Int}{mtk:Tok}{t:Int}{ttk:Tok}{xs:List Dr}{live:List Nd}
  (S:St c ((q.ca,InstP 1155 q.cd)::(q.cd,Dm (q.D (.int m mtk)))::(q.dd,DI c data)::(q.lk,DI c rows)::(Ring q.root (xs.map Dr.nd++live)++L)) s) (hr:A.depth+1<recursionLimit)
  (hd:Due t rows data xs) (hz:data.length≤1000) (hz2:rows.length≤1000) (hz3:xs.length≤900)
  (hlive:∀ b bs,live=b::bs→∃ e etk,b.e=.int e etk∧t<e)
  (h:∀ x tk' (told:List (Addr × Value × Value)) s',told.map (·.2)=xs.map (fun x=>(.int x.key x.ktk,x.val)) →
   St c ((x,LiP (told.map fun x=>.ref x.1))::(told.map (fun x=>(x.1,TuP [x.2.1,x.2.2]))++((q.ca,InstP 1155 q.cd)::(q.cd,Dm (q.D (.int (m-xs.length) tk')))::(q.dd,DI c (outs data xs))::(q.lk,DI c (outs rows xs))::(Ring q.root live++L)))) s'→R (.ok (.ret (.ref x))) s') :
  codeAny c.M A (.call (.ref 1138) ⟨[.ref q.ca,.int t ttk],[]⟩) R s:=by
 refine f_call fn1138 [(1,.ref q.ca),(35,.int t ttk)] S (by lia) (by rfl) (by kernel_rfl!) (by kernel_rfl!) ?_
 intro fr s S
 have F:=fn1138
 refine x_cut (fun s=>St c ((fr,Nm [(35,.int t ttk),(1,.ref q.ca)])::(q.ca,InstP 1155 q.cd)::(q.cd,Dm (q.D (.int m mtk)))::(q.dd,DI c data)::(q.lk,DI c rows)::(Ring q.root (xs.map Dr.nd++live)++L)) s) ?_ fun s S=>X_expire S hr hd hz hz2 hz3 hlive h
 walk_at "g"
 rename_i S
 exact Nxt.ok S
noncomputable def timer_call_out_P (K:Ck c) (tm dt:Addr) (t m:Int):Prop:=∀ (S:St c ((tm,InstP 929 dt)::(dt,Tm0 K.clk)::(K.G t m++L)) s) (hr:A.depth+1<recursionLimit) (h:∀ tk s',St c ((tm,InstP 929 dt)::(dt,Tm0 K.clk)::(K.G (t+K.step) (m+1)++L)) s'→R (.ok (.ret (.int (t+K.step) tk))) s'),codeAny c.M A (.call (.ref 898) ⟨[.ref tm],[]⟩) R s
theorem timer_call_out {K:Ck c}{tm dt:Addr}{t m:Int}:@timer_call_out_P c L s A R K tm dt t m:=by
 revert c L s A R K tm dt t m
 walk_at "e5"; intro c L s A R
 walk_at "e5"; intro K tm dt t m
 intro S hr h
 obtain ⟨⟨tk,j⟩,S⟩:=(S.pick (Pick.there .here)).open1
 refine f_call fn898 [(1,.ref tm)] S (by lia) (by rfl) (by kernel_rfl!) (by kernel_rfl!) ?_
 intro fr s S
 have F:=fn898
 iterate 9 walk_at "go"
 refine ⟨fun _=>?_,fun e=>absurd e (by decide)⟩
 walk_at "g"
 refine g_usual ‹_› (by walk_at "m") (by walk_at "m") timer_own_usual ?_
 walk_at "g"
 refine To.clock ‹_› (by walk_at "K") hr fun tk' s S=>?_
 walk_at "g"
 have S:=S.dropAt (p:=(fr,_)) (by walk_at "k")
 have S:=S.pick2 (p:=(tm,InstP 929 dt)) (q:=(dt,_)) (by walk_at "k") (by walk_at "k")
 exact h _ _ (S.weak (.there .here) fun o q=>⟨(_,j),q⟩)

theorem m_clock {cs:Value}{t m:Int}{pos:Pos}{pl:Sem Bool}{Q:Value→Shared→Prop}{L1 L2 L3:List Cell}
  (S:St c L s) (hx:(q.ca,InstP 1155 q.cd)∈L) (hd:(q.cd,Dm (q.D cs))∈L)
  (p1:Pick (q.tm,InstP 929 q.td) L L1) (p2:Pick (q.td,Tm0 q.K.clk) L1 L2) (p3:PickG (q.K.G t m) L2 L3) (hr:A.depth+1<recursionLimit)
  (h:∀ tk s',St c ((q.tm,InstP 929 q.td)::(q.td,Tm0 q.K.clk)::(q.K.G (t+q.K.step) (m+1)++L3)) s'→Q (.int (t+q.K.step) tk) s') :
  wpAny c.M A (getMethod (.ref q.ca) (Str.ofString "timer") pl) (fun fx s₂=>To c A env pos fx.1 fx.2 [] Q E s₂) E s:=by
 refine g_usual S hx hd timer_usual ?_
 refine e_timer S hx hd (by lia) fun s S=>?_
 have S:=(S.pick2 p1 p2).perm (L':=(q.tm,InstP 929 q.td)::(q.td,Tm0 q.K.clk)::(q.K.G t m++L3)) ((p3.perm.cons _).cons _).symm
 obtain ⟨⟨tk,j⟩,S1⟩:=(S.pick (Pick.there .here)).open1
 have S2:=S1.pick (p:=(q.tm,InstP 929 q.td)) (.there .here)
 refine To.inst (dx:=q.td) timer_callOk (.nil ⟨⟨_,S2,.head _,.tail _ (.head _)⟩,?_⟩)
 exact timer_call_out S hr fun tk s S=>h tk s S
theorem Nm.norm0 {a:Nat}{x x':Value}{l:List (Nat × Value)}{o:Obj} (h:Nm ((a,x)::(a,x')::l) o):Nm ((a,x)::l) o:=by
 refine h.cong fun k=>?_
 by_cases h1:k=a
 ·simp [List.lookup,h1]
 ·have h1':(k == a)=false:=by simpa using h1
  simp [List.lookup,h1']
theorem T_expire0 {data rows:List (Int × Value)}{m:Int}{mtk:Tok}{t n:Int}{xs:List Dr}{live:List Nd}
  (S:St c ((q.ca,InstP 1155 q.cd)::(q.cd,Dm (q.D (.int m mtk)))::(q.dd,DI c data)::(q.lk,DI c rows)::(q.tm,InstP 929 q.td)::(q.td,Tm0 q.K.clk)::(Ring q.root (xs.map Dr.nd++live)++(q.K.G t n++L))) s) (hr:A.depth+2<recursionLimit)
  (hd:Due (t+q.K.step) rows data xs) (hz:data.length≤1000) (hz2:rows.length≤1000) (hz3:xs.length≤900)
  (hlive:∀ b bs,live=b::bs→∃ e etk,b.e=.int e etk∧t+q.K.step<e)
  (h:∀ x tk' (told:List (Addr × Value × Value)) s',told.map (·.2)=xs.map (fun x=>(.int x.key x.ktk,x.val)) →
   St c ((x,LiP (told.map fun x=>.ref x.1))::(told.map (fun x=>(x.1,TuP [x.2.1,x.2.2]))++((q.ca,InstP 1155 q.cd)::(q.cd,Dm (q.D (.int (m-xs.length) tk')))::(q.dd,DI c (outs data xs))::(q.lk,DI c (outs rows xs))::(q.tm,InstP 929 q.td)::(q.td,Tm0 q.K.clk)::(Ring q.root live++(q.K.G (t+q.K.step) (n+1)++L))))) s'→R (.ok (.ret (.ref x))) s') :
  codeAny c.M A (.call (.ref 1138) ⟨[.ref q.ca],[]⟩) R s:=by
 refine f_call fn1138 [(1,.ref q.ca),(35,.none)] S (by lia) (by rfl) (by kernel_rfl!) (by kernel_rfl!) ?_
 intro fr s S
 have F:=fn1138
 refine x_cut (fun s=>∃ ttk,St c ((fr,Nm [(35,.int (t+q.K.step) ttk),(1,.ref q.ca)])::(q.ca,InstP 1155 q.cd)::(q.cd,Dm (q.D (.int m mtk)))::(q.dd,DI c data)::(q.lk,DI c rows)::(Ring q.root (xs.map Dr.nd++live)++((q.tm,InstP 929 q.td)::(q.td,Tm0 q.K.clk)::(q.K.G (t+q.K.step) (n+1)++L)))) s) ?_ fun s S=>?_
 ·walk_at "g"
  refine m_clock ‹_› (by walk_at "m") (by walk_at "m") (by walk_at "k") (by walk_at "k") (by walk_at "K") hr ?_
  intro tk s S
  walk_at "g"
  rename_i S
  refine Nxt.ok ⟨tk,?_⟩
  have S:=S.pick (p:=(fr,_)) (by walk_at "k")
  have S:=S.weak (P':=Nm [(35,.int (t+q.K.step) tk),(1,.ref q.ca)]) .here (fun o q'=>Nm.norm0 q')
  exact S.perm (by walk_at "d")
 ·obtain ⟨ttk,S⟩:=S
  refine X_expire S (by lia) hd hz hz2 hz3 hlive fun x tk' told s' e S=>h x tk' told s' e (S.perm (by walk_at "d"))
end
end
section
section
variable {env:Env}{v:Value}{name:Str}{C:Addr}
noncomputable def mcOk (K:Frag) (C:Addr) (mc:Value) (n:Str) (v:Value):Bool:=clsOk K C mc n v && decide (specialIn K (.ref C) "__getattribute__" = some (some (.builtin "type.__getattribute__")))
theorem m_cls {mc:Value}{pl:Sem Bool}{Q:Value × List Value→Shared→Prop} (S:St c L s) (hc:∀ P,mcOk (Mine.K P) C mc name v=true) (h:∀ s',St c L s'→Q (v,[]) s'):wpAny c.M A (getMethod (.ref C) name pl) Q E s:=by
 have h1:=hc c.P
 unfold mcOk at h1
 rw [Bool.and_eq_true,decide_eq_true_eq] at h1
 refine method_cls S.K h1.2 (g_cls (mc:=mc) S (fun P=>?_) fun s S=>h s S)
 have:=hc P
 unfold mcOk at this
 rw [Bool.and_eq_true] at this
 exact this.1
noncomputable def makeOk (K:Frag) (C fI:Addr):Bool:=makesIn K C && decide (findIn K (.ref C) "__init__" = some (some (.ref fI))) && decide (typeIn K (.ref fI)=some (.type "function"))
theorem emptyDict_Dm:Dm [] emptyDict:=⟨#[],0,fun _=>none,rfl,(fun _ h=>by simp at h),fun _=>rfl,fun _ _ _=>rfl,rfl,by decide⟩
noncomputable abbrev mk1 (A:Around) (C:Addr) (rest:List Value):Around:=A.under (.builtin "type.__call__" ⟨.ref C::rest,[]⟩)
theorem mk1_depth {rest:List Value}:(mk1 A C rest).depth=A.depth+1:=rfl
theorem c_make {fI:Addr}{rest:List Value} (S:St c L s) (hm:∀ P,makeOk (Mine.K P) C fI=true)
  (h:∀ x dx s',St c ((x,InstP C dx)::(dx,Dm [])::L) s'→codeAny c.M (mk1 A C rest) (.call (.ref fI) ⟨.ref x::rest,[]⟩) (InitBack x R) s') :
  codeAny c.M A (.call (.ref C) ⟨rest,[]⟩) R s:=by
 have h1:=hm c.P
 unfold makeOk at h1
 simp only [Bool.and_eq_true,decide_eq_true_eq] at h1
 obtain ⟨hh,g,d,t,os⟩:=s
 refine make_core (makes_of S.K h1.1.1) (looks_findIn S.K h1.1.2) (fun self=>bind_fn S.K self h1.2) (.inl rfl) (h _ hh.objs.size _ ?_)
 have S1:=S.push emptyDict rfl emptyDict_Dm (d:=d) (t:=t) (os:=os)
 have S2:=S1.push (instObj C hh.objs.size) rfl (P:=InstP C hh.objs.size) rfl (d:=d) (t:=t) (os:=os)
 rw [Heap.size_push] at S2
 exact S2
theorem InitBack.ok {x:Addr} (h:R (.ok (.ret (.ref x))) s):InitBack x R (.ok (.ret .none)) s:=⟨rfl,h⟩
end
end
section
section
variable {q:TCfg c}{env:Env}{fr:Addr}
theorem make1063 (P:Params):makeOk (Mine.K P) 1063 1045=true:=by kernel_rfl!
theorem keepC1063 (P:Params):keepIn (Mine.K P) (.ref 1063)=true:=by kernel_rfl!
theorem mc1063 (P:Params):mcOk (Mine.K P) 1155 (.ref 124) "_Link" (.ref 1063)=true:=by kernel_rfl!
theorem T_link1 {k:Value} (S:St c L s) (hr:A.depth+1<recursionLimit)
  (h:∀ x dx s',St c ((x,SlP 1063 dx [some .none,some k])::(dx,Dm [])::L) s'→R (.ok (.ret (.ref x))) s') :
  codeAny c.M A (.call (.ref 1063) ⟨[k],[]⟩) R s:=by
 refine c_make S make1063 fun x dx s S=>?_
 have S:=S.weak (P':=SlP 1063 dx []) .here fun o h=>h
 refine f_call fn1045 [(1,.ref x),(11,k),(47,.none)] S hr (by rfl) (by kernel_rfl!) (by kernel_rfl!) ?_
 intro fr s S
 have F:=fn1045
 walk_at "g"
 rename_i S
 refine InitBack.ok (h x dx _ ?_)
 exact (S.dropAt (p:=(fr,_)) (by walk_at "k")).perm (by exact ixd [0] rfl)
theorem T_link0 (S:St c L s) (hr:A.depth+1<recursionLimit)
  (h:∀ x dx s',St c ((x,SlP 1063 dx [some .none,some .none])::(dx,Dm [])::L) s'→R (.ok (.ret (.ref x))) s') :
  codeAny c.M A (.call (.ref 1063) ⟨[],[]⟩) R s:=by
 refine c_make S make1063 fun x dx s S=>?_
 have S:=S.weak (P':=SlP 1063 dx []) .here fun o h=>h
 refine f_call fn1045 [(1,.ref x),(11,.none),(47,.none)] S hr (by rfl) (by kernel_rfl!) (by kernel_rfl!) ?_
 intro fr s S
 have F:=fn1045
 walk_at "g"
 rename_i S
 refine InitBack.ok (h x dx _ ?_)
 exact (S.dropAt (p:=(fr,_)) (by walk_at "k")).perm (by exact ixd [0] rfl)
end
end
section
section
variable {env:Env}{v:Value}{fr d I:Addr}{l:List (Nat × Value)}{kvs:List (Int × Value)}{ep:Nat}
noncomputable def KI (d:Addr) (i n ep:Nat) (o:Obj):Prop:=KdkIter o d i n ep
noncomputable def DIe (c:Cx) (kvs:List (Int × Value)) (ep:Nat) (o:Obj):Prop:=KdkAt (intKind pw c.w) o kvs ep
theorem DIe.di {o:Obj} (h:DIe c kvs ep o):DI c kvs o:=by
 obtain ⟨es,r⟩:=h
 exact ⟨es,ep,r⟩
noncomputable def d_iter_P (Q:Value→Shared→Prop):Prop:=∀ (S:St c ((fr,Nm l)::(d,DI c kvs)::L) s) (h:∀ I ep s',St c ((fr,Nm l)::(I,KI d 0 kvs.length ep)::(d,DIe c kvs ep)::L) s'→Q (.ref I) s'),wpAny c.M A (call (.builtin "iter") [.ref d]) Q E s
theorem d_iter {Q:Value→Shared→Prop}:@d_iter_P c L s A E fr d l kvs Q:=by
 revert c L s A E fr d l kvs Q
 walk_at "e9"; intro c L s A E fr d l kvs
 walk_at "e1"; intro Q
 intro S h
 obtain ⟨m,ns,hm,F,NN,ft,nd⟩:=S.news
 cases ft with
 | @cons _ _ o _ rest q ft =>
  refine kdk_iter (knd:=intKind pw c.w) F NN (.head _) q (S.notMods (.tail _ (.head _))) fun I h' oI ep F' N' hlt hi ha=>?_
  refine h I ep _ (S.back (s:=s) (ns':=(I,oI)::(d,o)::rest) hm F' N' (.cons hi (.cons ha ft)) ?_ (fun p hp=>?_) rfl)
  ·rw [List.map_cons,List.nodup_cons]
   refine ⟨fun hh=>?_,nd⟩
   obtain ⟨p,hp,e⟩:=List.mem_map.mp hh
   exact Nat.lt_irrefl _ (e ▸ hlt p hp)
  ·rcases List.mem_cons.mp hp with rfl | hp
   ·exact Nat.le_trans (S.low _ (.tail _ (.head _)):c.h₀.objs.size≤(d,DI c kvs).1) (Nat.le_of_lt (hlt _ (.head _)))
   rcases List.mem_cons.mp hp with rfl | hp
   ·exact (S.low _ (.tail _ (.head _)):c.h₀.objs.size≤(d,DI c kvs).1)
   ·exact S.low _ (.tail _ (.tail _ hp))
noncomputable def d_next_P (k:Int) (x:Value) (i:Nat) (Q:Value→Shared→Prop):Prop:=∀ (S:St c ((fr,Nm l)::(I,KI d i kvs.length ep)::(d,DIe c kvs ep)::L) s) (hx:kvs[i]? = some (k,x)) (h:∀ tk s',St c ((fr,Nm l)::(I,KI d (i+1) kvs.length ep)::(d,DIe c kvs ep)::L) s'→Q (.int k tk) s'),wpAny c.M A (call (.builtin "next") [.ref I]) Q E s
theorem d_next {k:Int}{x:Value}{i:Nat}{Q:Value→Shared→Prop}:@d_next_P c L s A E fr d I l kvs ep k x i Q:=by
 revert c L s A E fr d I l kvs ep k x i Q
 walk_at "e9"; intro c L s A E fr d I l
 walk_at "e5"; intro kvs ep k x i
 walk_at "e1"; intro Q
 intro S hx h
 obtain ⟨m,ns,hm,F,NN,ft,nd⟩:=S.news
 cases ft with
 | @cons _ _ oi _ rest qi ft =>
  cases ft with
  | @cons _ _ o _ rest q ft =>
   have nd0:=nd
   rw [List.map_cons,List.nodup_cons] at nd
   refine kdk_next (knd:=intKind pw c.w) (i:=i) (k:=k) (x:=x) F NN (UpdF.head fun p hp e=>nd.1 (List.mem_map.mpr ⟨p,hp,e⟩)) qi q (.tail _ (.head _)) hx fun h' o' key hk F' N' hi'=>?_
   obtain ⟨t',rfl⟩:=PySem.Value.isInt_shape hk
   refine h t' _ (S.back (s:=s) (ns':=(I,o')::(d,o)::rest) hm F' N' (.cons hi' (.cons q ft)) ?_ (fun p hp=>?_) rfl)
   ·exact nd0
   ·rcases List.mem_cons.mp hp with rfl | hp
    ·exact (S.low _ (.tail _ (.head _)):c.h₀.objs.size≤(I,KI d i kvs.length ep).1)
    rcases List.mem_cons.mp hp with rfl | hp
    ·exact (S.low _ (.tail _ (.tail _ (.head _))):c.h₀.objs.size≤(d,DIe c kvs ep).1)
    ·exact S.low _ (.tail _ (.tail _ (.tail _ hp)))

noncomputable def Tms (clk:Addr) (n t:Int) (o:Obj):Prop:=if n=0 then Tm0 clk o else Tmr clk n t o
theorem Tms.zero {clk:Addr}{t:Int}{o:Obj}:Tms clk 0 t o↔Tm0 clk o:=by unfold Tms; rw [if_pos rfl]
theorem Tms.pos {clk:Addr}{n t:Int} (h:n≠0) {o:Obj}:Tms clk n t o↔Tmr clk n t o:=by unfold Tms; rw [if_neg h]
theorem Tms.of {clk:Addr}{n t:Int}{o:Obj} (h:Tmr clk n t o):Tms clk n t o:=by
 unfold Tms
 by_cases e:n=0
 ·subst e
  rw [if_pos rfl]
  obtain ⟨i,h⟩:=h
  exact ⟨(i.1,some (t,i.2)),h⟩
 ·rw [if_neg e]; exact h
noncomputable def Mv (K:Ck c) (n t t0 m0 t' t0' m0':Int):Prop:=(n≠0∧t'=t∧t0'=t0∧m0'=m0)∨(n=0∧t'=t0+K.step∧t0'=t0+K.step∧m0'=m0+1)
theorem timer_enter {K:Ck c}{tm dt:Addr}{n t t0 m0 t' t0' m0':Int} (S:St c ((tm,InstP 929 dt)::(dt,Tms K.clk n t)::(K.G t0 m0++L)) s) (hr:A.depth+1<recursionLimit) (hm:Mv K n t t0 m0 t' t0' m0')
  (h:∀ tk s',St c ((tm,InstP 929 dt)::(dt,Tmr K.clk (n+1) t')::(K.G t0' m0'++L)) s'→R (.ok (.ret (.int t' tk))) s') :
  codeAny c.M A (.call (.ref 905) ⟨[.ref tm],[]⟩) R s:=by
 rcases hm with ⟨hn,rfl,rfl,rfl⟩ | ⟨rfl,rfl,rfl,rfl⟩
 ·exact timer_enter_in (S.weak (.there .here) fun o q=>(Tms.pos hn).mp q) (by lia) hn h
 ·exact timer_enter_out (S.weak (.there .here) fun o q=>Tms.zero.mp q) hr h
theorem timer_exit {clk tm dt:Addr}{n t:Int} (S:St c ((tm,InstP 929 dt)::(dt,Tmr clk (n+1) t)::L) s) (hr:A.depth<recursionLimit) {a b d:Value}
  (h:∀ s',St c ((tm,InstP 929 dt)::(dt,Tms clk n t)::L) s'→R (.ok (.ret .none)) s') :
  codeAny c.M A (.call (.ref 912) ⟨[.ref tm,a,b,d],[]⟩) R s :=
 timer_exit_in S hr fun s S=>h s (S.weak (.there .here) fun o q=>Tms.of (by
  have e:n+1-1=n:=by lia
  rw [e] at q; exact q))
end
end
section
section
variable {env:Env}{i v:Value}{fr x dx C f:Addr}{l:List (Nat × Value)}{PP:Obj→Prop}
theorem St.frm (S:St c L s) (hm:(fr,Nm l)∈L):∃ m,Fr c.h₀ fr s.heap m:=by
 obtain ⟨o,e,m,⟨es,ep,q1,q2,q3⟩,_⟩:=S.get hm
 exact ⟨m,⟨o,es,ep,e,q1,q2,q3⟩,S.base,S.low _ hm⟩
theorem St.instP (S:St c L s) (hx:(x,InstP C dx)∈L) (hd:(dx,PP)∈L):∃ od,PySem.W.InstAt s.heap x (instObj C dx) C (some od):=by
 obtain ⟨o,e,rfl⟩:=S.get hx
 obtain ⟨od,e',_⟩:=S.get hd
 exact ⟨od,e,rfl,rfl,e'⟩
noncomputable def spOk (K:Frag) (C:Addr) (n:Str) (f:Addr):Bool:=decide (findIn K (.ref C) n=some (some (.ref f))) && isFn K (.ref f) && fnIn K f && noSeq K C
theorem i_in {Q:Value→Shared→Prop} (S:St c L s) (hfr:(fr,Nm l)∈L) (hx:(x,InstP C dx)∈L) (hd:(dx,PP)∈L) (hc:∀ P,spOk (Mine.K P) C "__contains__" f=true)
  (h:codeAny c.M A (.call (.ref f) ⟨[.ref x,v],[]⟩) (Ret (fun r s'=>∃ b,r=.bool b∧Q (.bool b) s') E) s):wpAny c.M A (compareOp .In v (.ref x)) Q E s:=by
 have hc:=hc c.P
 unfold spOk at hc
 simp only [Bool.and_eq_true,decide_eq_true_eq] at hc
 obtain ⟨m,F⟩:=S.frm hfr
 obtain ⟨od,I⟩:=S.instP hx hd
 refine in_K F S.ok.K I hc.1.1.1 hc.1.1.2 (wpAny_mono (x_code h) (fun r s' z=>?_) fun _ _ z=>z)
 obtain ⟨b,rfl,z⟩:=z
 exact wpAny_truthy_bool z
theorem i_get {value slice:Expr}{Q:Value→Shared→Prop} (S:St c L s) (hfr:(fr,Nm l)∈L) (hx:(x,InstP C dx)∈L) (hd:(dx,PP)∈L) (hc:∀ P,spOk (Mine.K P) C "__getitem__" f=true)
  (h:codeAny c.M A.in1 (.call (.ref f) ⟨[.ref x,i],[]⟩) (Ret Q E) s)
  (hsl:autoParam (subscripted slice true (.ref x) i=runValue (.builtin "lifetime.subscript" ⟨[.ref x,i],[]⟩)) aW):wpAny c.M A (subscriptTail value slice (.ref x) i) Q E s:=by
 have hc:=hc c.P
 unfold spOk at hc
 simp only [Bool.and_eq_true,decide_eq_true_eq] at hc
 obtain ⟨m,F⟩:=S.frm hfr
 obtain ⟨od,I⟩:=S.instP hx hd
 exact sub_K F S.ok.K I hc.1.1.1 hc.1.2 hc.1.1.2 (x_code h) hsl
theorem i_set {Q:Unit→Shared→Prop} (S:St c L s) (hfr:(fr,Nm l)∈L) (hx:(x,InstP C dx)∈L) (hd:(dx,PP)∈L) (hc:∀ P,spOk (Mine.K P) C "__setitem__" f=true)
  (h:codeAny c.M A (.call (.ref f) ⟨[.ref x,i,v],[]⟩) (Ret (fun _ s'=>Q () s') E) s):wpAny c.M A (setItem (.ref x) i v) Q E s:=by
 have hc:=hc c.P
 unfold spOk at hc
 simp only [Bool.and_eq_true,decide_eq_true_eq] at hc
 obtain ⟨m,F⟩:=S.frm hfr
 obtain ⟨od,I⟩:=S.instP hx hd
 exact ksp_setItem F S.ok.K I hc.2 hc.1.1.1 hc.1.1.2 (x_code h)
theorem i_del {Q:Unit→Shared→Prop} (S:St c L s) (hx:(x,InstP C dx)∈L) (hd:(dx,PP)∈L) (hc:∀ P,spOk (Mine.K P) C "__delitem__" f=true)
  (h:codeAny c.M A (.call (.ref f) ⟨[.ref x,i],[]⟩) (Ret (fun _ s'=>Q () s') E) s):wpAny c.M A (delItem (.ref x) i) Q E s:=by
 have hc:=hc c.P
 unfold spOk at hc
 simp only [Bool.and_eq_true,decide_eq_true_eq] at hc
 obtain ⟨od,I⟩:=S.instP hx hd
 unfold delItem sequenceKey
 refine wpAny_holding (wpAny_bind (wpAny_bind (I.type.here ?_)))
 refine wpAny_bind ((anyM_none S.K hc.2).here ?_)
 rw [if_pos (show (!false)=true from rfl)]
 exact wpAny_pure (wpAny_bind (special_fn S.K I hc.1.1.1 (beq_iff_eq.mp hc.1.1.2) (wpAny_mono (x_code h) (fun _ _ z=>wpAny_pure z) fun _ _ z=>z)))
noncomputable def x_wN_P (ctx:Expr) (y:Str) (py pos:Pos) (body:List Stmt) (Q:Flow → Shared → Prop):Prop:=∀ (h:wpAny c.M A (eval ctx env) (fun v s => ∃ (tm dt:Addr) (PP:Obj → Prop) (L:List Cell), v=.ref tm ∧ St c L s ∧ (tm, InstP 929 dt) ∈ L ∧ (dt, PP) ∈ L ∧
   codeAny c.M A (.call (.ref 905) ⟨[.ref tm],[]⟩) (Ret (fun v s₂=>wpAny c.M A (storeName env y v) (fun _ s₃=>wpAny c.M A (execs body env) (Out c A E tm Q) No s₃) No s₂) E) s) E s),wpAny c.M A (exec (.With [⟨ctx,some (.Name y py)⟩] body pos) env) Q E s
theorem x_wN {ctx:Expr}{y:Str}{py pos:Pos}{body:List Stmt}{Q:Flow→Shared→Prop}:@x_wN_P c s A E env ctx y py pos body Q:=by
 revert c s A E env ctx y py pos body Q
 walk_at "e9"; intro c s A E env ctx y py pos
 walk_at "e2"; intro body Q
 intro h
 refine kw_execN (wpAny_mono h (fun v s z=>?_) fun _ _ z=>z)
 obtain ⟨tm,dt,PP,L,rfl,S,hx,hd,z⟩:=z
 have W:=withOk929 c.P
 unfold withOk at W
 simp only [Bool.and_eq_true,decide_eq_true_eq] at W
 obtain ⟨od,I⟩:=S.instP hx hd
 refine kw_core (b:=assign (.Name y py) env) (fx:=912) S.K I W.1.1.1 W.1.1.2 W.1.2 W.2 (wpAny_mono (x_code z) (fun v s₂ z=>?_) fun _ _ z=>z)
 refine wpAny_mono (wpAny_assign_Name z) (fun _ s₃ z=>wpAny_mono z (fun f s₄ z=>x_code z) fun _ _ z=>z) fun _ _ z=>z
theorem x_assign_sub {o i:Expr}{pos:Pos}{Q:Unit→Shared→Prop} (h:wpAny c.M A (eval o env) (fun ov s₁=>wpAny c.M A (eval i env) (fun iv s₂=>wpAny c.M A (setItem ov iv v) Q E s₂) E s₁) E s) :
  wpAny c.M A (assign (.Subscript o i pos) env v) Q E s:=by
 rw [arm_assign_Subscript]
 refine wpAny_bind (wpAny_holding (wpAny_mono h (fun ov s₁ z=>wpAny_bind (wpAny_holding (wpAny_mono z (fun iv s₂ z=>wpAny_bind (wpAny_standAt (wpAny_bind (wpAny_holding (wpAny_mono z (fun _ s₃ z=>?_) fun _ _ z=>z))))) fun _ _ z=>z))) fun _ _ z=>z))
 exact wpAny_release z
theorem St.pick2G {L1 L2 L3 G p q} (S:St c L s) (h1:Pick p L L1) (h2:Pick q L1 L2) (h3:PickG G L2 L3):St c (p::q::(G++L3)) s :=
 (S.pick2 h1 h2).perm ((h3.perm.cons _).cons _).symm
theorem St.pick4G {L1 L2 L3 L4 L5 G p q r t} (S:St c L s) (h1:Pick p L L1) (h2:Pick q L1 L2) (h3:Pick r L2 L3) (h4:Pick t L3 L4) (h5:PickG G L4 L5):St c (p::q::r::t::(G++L5)) s :=
 (S.pick4 h1 h2 h3 h4).perm ((((h5.perm.cons _).cons _).cons _).cons _).symm
theorem St.pick6G {L1 L2 L3 L4 L5 L6 L7 G p q r t p5 p6} (S:St c L s) (h1:Pick p L L1) (h2:Pick q L1 L2) (h3:Pick r L2 L3) (h4:Pick t L3 L4) (h5:Pick p5 L4 L5) (h6:Pick p6 L5 L6) (h7:PickG G L6 L7):St c (p::q::r::t::p5::p6::(G++L7)) s :=
 (S.pick4 h1 h2 h3 h4).perm (((((h5.perm.trans (h6.perm.cons _)).trans ((h7.perm.cons _).cons _)).cons _).cons _).cons _ |>.cons _).symm
theorem sp_in (P:Params):spOk (Mine.K P) 1155 "__contains__" 1084=true:=by kernel_rfl!
theorem sp_get (P:Params):spOk (Mine.K P) 1155 "__getitem__" 1092=true:=by kernel_rfl!
theorem sp_set (P:Params):spOk (Mine.K P) 1155 "__setitem__" 1100=true:=by kernel_rfl!
theorem sp_del (P:Params):spOk (Mine.K P) 1155 "__delitem__" 1108=true:=by kernel_rfl!
theorem keep1138 (P:Params):keepIn (Mine.K P) (.ref 1138)=true:=by kernel_rfl!
theorem keep1145 (P:Params):keepIn (Mine.K P) (.ref 1145)=true:=by kernel_rfl!
theorem keep770 (P:Params):keepIn (Mine.K P) (.ref 770)=true:=by kernel_rfl!
theorem mc_getitem (P:Params):mcOk (Mine.K P) 865 (.ref 124) "__getitem__" (.ref 763)=true:=by kernel_rfl!
end
end
section
section
variable {q:TCfg c}{env:Env}{fr:Addr}
noncomputable def T_popitem_P (data rows:List (Int × Value)) (m n t t0 m0 t' t0' m0' key e:Int) (mtk etk:Tok) (ex:List Dr) (us vs:List Nd) (nd:Nd) (v:Value) (rest:List (Int × Value)):Prop:=∀ (S:St c ((q.ca, InstP 1155 q.cd) :: (q.cd, Dm (q.D (.int m mtk))) :: (q.dd, DI c data) :: (q.lk, DI c rows) :: (q.tm, InstP 929 q.td) :: (q.td, Tms q.K.clk n t) :: (Ring q.root (ex.map Dr.nd ++ (us ++ nd :: vs)) ++ (q.K.G t0 m0 ++ L))) s) (hr:A.depth+3<recursionLimit) (hn:0≤n) (hm:Mv q.K n t t0 m0 t' t0' m0') (hd:Due t' rows data ex) (hz:data.length≤900) (hz2:rows.length≤900) (hz3:ex.length≤900) (hlive:∀ b bs, us ++ nd :: vs=b :: bs → ∃ e etk, b.e=.int e etk ∧ t'<e) (hrows:outs rows ex=(key, .ref nd.a) :: rest) (hv:valueAt (outs data ex) key=some v) (he:nd.e=.int e etk) (ht:t'<e) (hzo:(outs rows ex).length≤900) (hzd:(outs data ex).length≤900) (h:∀ x ktk tk' s', St c ((x, TuP [.int key ktk, v]) :: (q.ca, InstP 1155 q.cd) :: (q.cd, Dm (q.D (.int (m-ex.length-1) tk'))) :: (q.dd, DI c (without (outs data ex) key)) :: (q.lk, DI c (without (outs rows ex) key)) :: (q.tm, InstP 929 q.td) :: (q.td, Tms q.K.clk n t') ::
   (Ring q.root (us++vs)++(q.K.G t0' m0'++L))) s'→R (.ok (.ret (.ref x))) s'),codeAny c.M A (.call (.ref 1145) ⟨[.ref q.ca],[]⟩) R s
set_option maxHeartbeats 4000000 in
theorem T_popitem {data rows:List (Int × Value)}{m n t t0 m0 t' t0' m0' key e:Int}{mtk etk:Tok}{ex:List Dr}{us vs:List Nd}{nd:Nd}{v:Value}{rest:List (Int × Value)}:@T_popitem_P c L s A R q data rows m n t t0 m0 t' t0' m0' key e mtk etk ex us vs nd v rest:=by
 revert c L s A R q data rows m n t t0 m0 t' t0' m0' key e mtk etk ex us vs nd v rest
 walk_at "e5"; intro c L s A R
 walk_at "e9"; intro q data rows m n t t0 m0 t'
 walk_at "e9"; intro t0' m0' key e mtk etk ex us vs
 walk_at "e2"; intro nd v
 walk_at "e1"; intro rest
 intro S hr hn hm hd hz hz2 hz3 hlive hrows hv he ht hzo hzd h
 have n1:n+1≠0:=by lia
 refine f_call fn1145 [(1,.ref q.ca)] S (by lia) (by rfl) (by kernel_rfl!) (by kernel_rfl!) ?_
 intro fr s S
 have F:=fn1145
 refine x_cons ?_
 refine x_wN ?_
 walk_at "g"
 refine e_timer S (by walk_at "m") (by walk_at "m") (by rw [depth_deeper]; lia) fun s S=>?_
 refine ⟨_,_,_,_,rfl,S,by exact ixm 5 rfl,by exact ixm 6 rfl,?_⟩
 refine timer_enter (St.pick2G S (by walk_at "k") (by walk_at "k") (by walk_at "K")) (by rw [depth_deeper]; lia) hm fun ttk s S=>?_
 walk_at "g"
 refine g_meth ‹_› (by exact ixn 2 1 rfl rfl) (by walk_at "c") (by exact ixn 2 2 rfl rfl) (by walk_at "i") (by rfl) (by rfl) ?_
 refine To.K keep1138 ?_
 walk_at "g"
 refine ⟨⟨_,by assumption⟩,T_expire (q:=q) (St.pick4G ‹_› (by walk_at "k") (by walk_at "k") (by walk_at "k") (by walk_at "k") (by walk_at "K")) (by rw [depth_deeper]; lia) hd (by lia) (by lia) hz3 hlive ?_⟩
 intro x tk' told s e1 S
 have S:=S.drop.dropG
 walk_at "g"
 refine d_iter (St.pick2 ‹_› (by walk_at "k") (by walk_at "k")) fun I ep s S=>?_
 rw [hrows] at S
 walk_at "g"
 refine d_next (k:=key) (x:=.ref nd.a) S rfl fun ktk s S=>?_
 have S:=S.dropAt (p:=(I,_)) (by walk_at "k")
 have S:=S.weak (a:=q.lk) (P':=DI c (outs rows ex)) (by walk_at "r") (fun o z=>by rw [hrows]; exact z.di)
 walk_at "g"
 refine m_cls ‹_› mc_getitem fun s S=>?_
 refine To.K keep763 ?_
 walk_at "g"
 refine ⟨⟨_,by assumption⟩,T_getitem (q:=q) (St.pick3 ‹_› (by walk_at "k") (by walk_at "k") (by walk_at "k")) (by rw [depth_deeper]; lia) hv ?_⟩
 intro s S
 walk_at "g"
 refine i_del ‹_› (by walk_at "m") (by walk_at "m") sp_del ?_
 refine T_del_live (q:=q) (St.pick6G ‹_› (by walk_at "k") (by walk_at "k") (by walk_at "k") (by walk_at "k") (by walk_at "k") (by walk_at "k") (by walk_at "K")) (by rw [depth_deeper]; lia) n1 (by rw [hrows]; simp [valueAt,List.lookup]) (by rw [hv]; rfl) he ht (by lia) (by lia) fun tk s S=>?_
 walk_at "g"
 rename_i xt s S
 refine timer_exit (St.pick2 S (by walk_at "k") (by walk_at "k")) (by rw [depth_deeper]; lia) fun s S=>?_
 walk_at "g"
 refine h xt ktk tk _ ?_
 exact (S.dropAt (p:=(fr,_)) (by walk_at "k")).perm (by exact ixd [2,2,2,2,2] rfl)
end
end
section
section
variable {q:TCfg c}{env:Env}{fr:Addr}
theorem T_popitem_now {data rows:List (Int × Value)}{m n t t0 m0 key e:Int}{mtk etk:Tok}{us vs:List Nd}{nd:Nd}{v:Value}{rest:List (Int × Value)}
  (S:St c ((q.ca,InstP 1155 q.cd)::(q.cd,Dm (q.D (.int m mtk)))::(q.dd,DI c data)::(q.lk,DI c rows)::(q.tm,InstP 929 q.td)::(q.td,Tmr q.K.clk n t)::(Ring q.root (us++nd::vs)++(q.K.G t0 m0++L))) s)
  (hr:A.depth+3<recursionLimit) (hn:0<n) (hz:data.length≤900) (hz2:rows.length≤900)
  (hlive:∀ b bs,us++nd::vs=b::bs→∃ e etk,b.e=.int e etk∧t<e)
  (hrows:rows=(key,.ref nd.a)::rest) (hv:valueAt data key=some v) (he:nd.e=.int e etk) (ht:t<e)
  (h:∀ tk' s',St c ((q.ca,InstP 1155 q.cd)::(q.cd,Dm (q.D (.int (m-1) tk')))::(q.dd,DI c (without data key))::(q.lk,DI c (without rows key))::(q.tm,InstP 929 q.td)::(q.td,Tmr q.K.clk n t) ::
   (Ring q.root (us++vs)++(q.K.G t0 m0++L))) s'→∀ x,R (.ok (.ret (.ref x))) s') :
  codeAny c.M A (.call (.ref 1145) ⟨[.ref q.ca],[]⟩) R s:=by
 have n0:n≠0:=by lia
 have S1:=S.weak (a:=q.td) (P':=Tms q.K.clk n t) (by walk_at "r") fun o z=>Tms.of z
 refine T_popitem (ex:=[]) (t':=t) (t0':=t0) (m0':=m0) S1 hr (by lia) (.inl ⟨n0,rfl,rfl,rfl⟩) trivial hz hz2 (Nat.zero_le _) hlive hrows hv he ht hz2 hz fun x ktk tk' s' S=>?_
 have e:m-((([] : List Dr).length:Nat):Int)-1=m-1:=by simp
 rw [e] at S
 refine h tk' s' ?_ x
 have S:St c ((q.ca,InstP 1155 q.cd)::(q.cd,Dm (q.D (.int (m-1) tk')))::(q.dd,DI c (without data key))::(q.lk,DI c (without rows key))::(q.tm,InstP 929 q.td)::(q.td,Tms q.K.clk n t)::(Ring q.root (us++vs)++(q.K.G t0 m0++L))) s':=S.drop
 exact S.weak (a:=q.td) (by walk_at "r") fun o z=>(Tms.pos n0).mp z

noncomputable def T_put_there_P (data:List (Int × Value)) (m key:Int) (mtk kt:Tok) (v:Value):Prop:=∀ (S:St c ((q.ca,InstP 1155 q.cd)::(q.cd,Dm (q.D (.int m mtk)))::(q.dd,DI c data)::L) s) (hr:A.depth<recursionLimit) (hroom:1≤q.room) (hk:(valueAt data key).isSome=true) (hz:data.length≤900) (h:∀ s',St c ((q.ca,InstP 1155 q.cd)::(q.cd,Dm (q.D (.int m mtk)))::(q.dd,DI c (stored data key v))::L) s'→R (.ok (.ret .none)) s'),codeAny c.M A (.call (.ref 770) ⟨[.ref q.ca,.int key kt,v],[]⟩) R s
theorem T_put_there {data:List (Int × Value)}{m key:Int}{mtk kt:Tok}{v:Value}:@T_put_there_P c L s A R q data m key mtk kt v:=by
 revert c L s A R q data m key mtk kt v
 walk_at "e5"; intro c L s A R
 walk_at "e5"; intro q data m key mtk
 walk_at "e2"; intro kt v
 intro S hr hroom hk hz h
 refine f_call fn770 [(1,.ref q.ca),(11,.int key kt),(15,v)] S hr (by rfl) (by kernel_rfl!) (by kernel_rfl!) ?_
 intro fr s S
 have F:=fn770
 walk_at "g"
 rw [decide_eq_false (by lia:¬ q.room<1)]
 walk_at "g"
 refine d_in ‹_› (by walk_at "m") fun s S=>?_
 rw [hk]
 walk_at "g"
 refine d_set ‹_› (by walk_at "r") (by lia) fun s S=>?_
 walk_at "g"
 rename_i S
 exact h _ ((S.dropAt (p:=(fr,_)) (by walk_at "k")).perm (by exact .refl _))

noncomputable def T_put_new_P (data:List (Int × Value)) (m key:Int) (mtk kt:Tok) (v:Value):Prop:=∀ (S:St c ((q.ca,InstP 1155 q.cd)::(q.cd,Dm (q.D (.int m mtk)))::(q.dd,DI c data)::L) s) (hr:A.depth<recursionLimit) (hroom:1≤q.room) (hm:m+1≤q.room) (hk:valueAt data key=none) (hz:data.length≤900) (h:∀ tk s',St c ((q.ca,InstP 1155 q.cd)::(q.cd,Dm (q.D (.int (m+1) tk)))::(q.dd,DI c (stored data key v))::L) s'→R (.ok (.ret .none)) s'),codeAny c.M A (.call (.ref 770) ⟨[.ref q.ca,.int key kt,v],[]⟩) R s
theorem T_put_new {data:List (Int × Value)}{m key:Int}{mtk kt:Tok}{v:Value}:@T_put_new_P c L s A R q data m key mtk kt v:=by
 revert c L s A R q data m key mtk kt v
 walk_at "e5"; intro c L s A R
 walk_at "e5"; intro q data m key mtk
 walk_at "e2"; intro kt v
 intro S hr hroom hm hk hz h
 refine f_call fn770 [(1,.ref q.ca),(11,.int key kt),(15,v)] S hr (by rfl) (by kernel_rfl!) (by kernel_rfl!) ?_
 intro fr s S
 have F:=fn770
 walk_at "g"
 rw [decide_eq_false (by lia:¬ q.room<1)]
 walk_at "g"
 refine d_in ‹_› (by walk_at "m") fun s S=>?_
 rw [show (valueAt data key).isSome=false by rw [hk]; rfl]
 walk_at "g"
 refine x_while (fun n' s'=>n'=0∧s'=s) 0 ⟨rfl,rfl⟩ fun n' s' hI=>?_
 obtain ⟨rfl,rfl⟩:=hI
 walk_at "g"
 rw [decide_eq_false (by lia:¬ q.room<m+1)]
 walk_at "g"
 refine d_set ‹_› (by walk_at "r") (by lia) fun s S=>?_
 walk_at "g"
 rename_i S
 exact h _ _ ((S.dropAt (p:=(fr,_)) (by walk_at "k")).perm (by exact ixd [0,0] rfl))

noncomputable def T_put_full_P (data rows:List (Int × Value)) (m n t t0 m0 key key1 e:Int) (mtk etk kt:Tok) (us vs:List Nd) (nd:Nd) (v v1:Value) (rest:List (Int × Value)):Prop:=∀ (S:St c ((q.ca, InstP 1155 q.cd) :: (q.cd, Dm (q.D (.int m mtk))) :: (q.dd, DI c data) :: (q.lk, DI c rows) :: (q.tm, InstP 929 q.td) :: (q.td, Tmr q.K.clk n t) :: (Ring q.root (us ++ nd :: vs) ++ (q.K.G t0 m0 ++ L))) s) (hr:A.depth+4<recursionLimit) (hn:0<n) (hroom:1≤q.room) (hm:m=q.room) (hk:valueAt data key=none) (hz:data.length≤900) (hz2:rows.length≤900) (hlive:∀ b bs, us ++ nd :: vs=b :: bs → ∃ e etk, b.e=.int e etk ∧ t<e) (hrows:rows=(key1, .ref nd.a) :: rest) (hv:valueAt data key1=some v1) (he:nd.e=.int e etk) (ht:t<e) (h:∀ tk' s', St c ((q.ca, InstP 1155 q.cd) :: (q.cd, Dm (q.D (.int (m-1+1) tk'))) :: (q.dd, DI c (stored (without data key1) key v)) :: (q.lk, DI c (without rows key1)) :: (q.tm, InstP 929 q.td) :: (q.td, Tmr q.K.clk n t) ::
   (Ring q.root (us++vs)++(q.K.G t0 m0++L))) s'→R (.ok (.ret .none)) s'),codeAny c.M A (.call (.ref 770) ⟨[.ref q.ca,.int key kt,v],[]⟩) R s
theorem T_put_full {data rows:List (Int × Value)}{m n t t0 m0 key key1 e:Int}{mtk etk kt:Tok}{us vs:List Nd}{nd:Nd}{v v1:Value}{rest:List (Int × Value)}:@T_put_full_P c L s A R q data rows m n t t0 m0 key key1 e mtk etk kt us vs nd v v1 rest:=by
 revert c L s A R q data rows m n t t0 m0 key key1 e mtk etk kt us vs nd v v1 rest
 walk_at "e5"; intro c L s A R
 walk_at "e9"; intro q data rows m n t t0 m0 key
 walk_at "e9"; intro key1 e mtk etk kt us vs nd v
 walk_at "e2"; intro v1 rest
 intro S hr hn hroom hm hk hz hz2 hlive hrows hv he ht h
 refine f_call fn770 [(1,.ref q.ca),(11,.int key kt),(15,v)] S (by lia) (by rfl) (by kernel_rfl!) (by kernel_rfl!) ?_
 intro fr s S
 have F:=fn770
 walk_at "g"
 rw [decide_eq_false (by lia:¬ q.room<1)]
 walk_at "g"
 refine d_in ‹_› (by walk_at "m") fun s S=>?_
 rw [show (valueAt data key).isSome=false by rw [hk]; rfl]
 walk_at "g"
 refine x_while (fun n' s2=>(n'=1∧s2=s)∨(n'=0∧∃ tk',St c ((fr,Nm [(2,.int q.room q.rtk),(17,.none),(16,.ref q.dd),(15,v),(11,.int key kt),(1,.ref q.ca)])::(q.ca,InstP 1155 q.cd)::(q.cd,Dm (q.D (.int (m-1) tk')))::(q.dd,DI c (without data key1))::(q.lk,DI c (without rows key1))::(q.tm,InstP 929 q.td)::(q.td,Tmr q.K.clk n t) ::
   (Ring q.root (us++vs)++(q.K.G t0 m0++L))) s2)) 1 (.inl ⟨rfl,rfl⟩) fun n' s2 hI=>?_
 rcases hI with ⟨rfl,rfl⟩ | ⟨rfl,tk,S⟩
 ·walk_at "g"
  rw [decide_eq_true (by lia:q.room<m+1)]
  walk_at "g"
  refine g_meth ‹_› (by walk_at "m") (by walk_at "c") (by walk_at "m") (by walk_at "i") (by rfl) (by rfl) ?_
  refine To.K keep1145 ?_
  walk_at "g"
  refine ⟨⟨_,by assumption⟩,T_popitem_now (q:=q) (St.perm (L':=(q.ca,InstP 1155 q.cd)::(q.cd,Dm (q.D (.int m mtk)))::(q.dd,DI c data)::(q.lk,DI c rows)::(q.tm,InstP 929 q.td)::(q.td,Tmr q.K.clk n t)::(Ring q.root (us++nd::vs)++(q.K.G t0 m0++((fr,_)::L)))) ‹_› (by walk_at "d")) (by rw [depth_deeper]; lia) hn hz hz2 hlive hrows hv he ht ?_⟩
  intro tk' s S x
  walk_at "g"
  refine ⟨0,by lia,.inr ⟨rfl,tk',?_⟩⟩
  exact S.perm (by walk_at "d")
 ·have hzw:(without data key1).length≤900:=Nat.le_trans (List.length_filter_le _ _) hz
  walk_at "g"
  rw [decide_eq_false (by lia:¬ q.room<m-1+1)]
  walk_at "g"
  refine d_set ‹_› (by walk_at "r") (by lia) fun s S=>?_
  walk_at "g"
  rename_i S
  exact h _ _ ((S.dropAt (p:=(fr,_)) (by walk_at "k")).perm (by exact ixd [0,0] rfl))
end
end
section
section
variable {q:TCfg c}{env:Env}{fr:Addr}
noncomputable def tail1100:List Stmt:=(bodyOf fd1100).drop 4
noncomputable def X_append_P (cs tv fs v kv k:Value) (e:Int) (etk:Tok) (a dx:Addr) (sl:List (Option Value)) (rs:List Nd):Prop:=∀ (S:St c ((fr,Nm [(59,.ref a),(62,.ref q.lk),(47,.int e etk),(35,tv),(63,fs),(15,v),(11,kv),(1,.ref q.ca)])::(q.ca,InstP 1155 q.cd)::(q.cd,Dm (q.D cs))::(a,SlP 1063 dx sl)::(dx,Dm [])::(Ring q.root rs++L)) s) (hs:sl=[some .none,some k]∨∃ e0 n0 p0,sl=[some e0,some k,some n0,some p0]) (h:∀ s',St c ((q.ca,InstP 1155 q.cd)::(q.cd,Dm (q.D cs))::(Ring q.root (rs++[⟨a,dx,.int e etk,k⟩])++L)) s'→R (.ok (.ret .none)) s'),wpAny c.M (A.deeper (envF 1100 fd1100 fr)) (execs tail1100 (envF 1100 fd1100 fr)) (Back R) (Fly c A (envF 1100 fd1100 fr) R) s
set_option maxHeartbeats 1000000 in
theorem X_append {cs tv fs v kv k:Value}{e:Int}{etk:Tok}{a dx:Addr}{sl:List (Option Value)}{rs:List Nd}:@X_append_P c L s A R q fr cs tv fs v kv k e etk a dx sl rs:=by
 revert c L s A R q fr cs tv fs v kv k e etk a dx sl rs
 walk_at "e5"; intro c L s A R
 walk_at "e9"; intro q fr cs tv fs v kv k e
 walk_at "e5"; intro etk a dx sl rs
 intro S hs h
 have F:=fn1100
 rcases List.eq_nil_or_concat rs with rfl | ⟨us,p,rfl⟩
 ·unfold Ring at S h
  simp only [links_cons,links_nil,hd_cons,hd_nil,lst_cons,lst_nil,List.nil_append,List.cons_append] at S h
  rcases hs with rfl | ⟨e0,n0,p0,rfl⟩
  all_goals
   refine x_cons ?_
   walk_at "g"
   rename_i S
   exact h _ ((S.dropAt (p:=(fr,_)) (by walk_at "k")).perm (by exact ixd [2,2,0,2,0] rfl))
 ·rw [List.concat_eq_append] at S h
  unfold Ring at S h
  simp only [links_cons,links_nil,lst_app,links_app,hd_app,hd_cons,hd_nil,lst_cons,lst_nil,List.nil_append,List.append_nil,List.cons_append,List.append_assoc] at S h
  rcases hs with rfl | ⟨e0,n0,p0,rfl⟩
  all_goals
   refine x_cons ?_
   walk_at "g"
   rename_i S
   exact h _ ((S.dropAt (p:=(fr,_)) (by walk_at "k")).perm (by exact ixe 7 4 [3,3,0,3,0,2,0] rfl rfl rfl))
end
end
section
section
variable {q:TCfg c}{env:Env}{fr:Addr}
noncomputable def Put (room t:Int) (data rows:List (Int × Value)) (ring:List Nd) (m key:Int) (v:Value) (data' rows':List (Int × Value)) (ring':List Nd) (m':Int):Prop :=
 ((valueAt data key).isSome=true∧data'=stored data key v∧rows'=rows∧ring'=ring∧m'=m) ∨
 (valueAt data key=none∧m+1≤room∧data'=stored data key v∧rows'=rows∧ring'=ring∧m'=m+1) ∨
 (valueAt data key=none∧m=room∧∃ (us vs:List Nd) (nd:Nd) (key1:Int) (rest:List (Int × Value)) (v1:Value) (e:Int) (etk:Tok),ring=us++nd::vs∧rows=(key1,.ref nd.a)::rest∧valueAt data key1=some v1∧nd.e=.int e etk∧t<e ∧
  data'=stored (without data key1) key v∧rows'=without rows key1∧ring'=us++vs∧m'=m-1+1)
noncomputable def T_put_P (data rows data' rows':List (Int × Value)) (m m' n t t0 m0 key:Int) (mtk kt:Tok) (ring ring':List Nd) (v:Value):Prop:=∀ (S:St c ((q.ca, InstP 1155 q.cd) :: (q.cd, Dm (q.D (.int m mtk))) :: (q.dd, DI c data) :: (q.lk, DI c rows) :: (q.tm, InstP 929 q.td) :: (q.td, Tmr q.K.clk n t) :: (Ring q.root ring ++ (q.K.G t0 m0 ++ L))) s) (hr:A.depth+4<recursionLimit) (hn:0<n) (hroom:1≤q.room) (hz:data.length≤900) (hz2:rows.length≤900) (hlive:∀ b bs, ring=b :: bs → ∃ e etk, b.e=.int e etk ∧ t<e) (hp:Put q.room t data rows ring m key v data' rows' ring' m') (h:∀ tk' s', St c ((q.ca, InstP 1155 q.cd) :: (q.cd, Dm (q.D (.int m' tk'))) :: (q.dd, DI c data') :: (q.lk, DI c rows') :: (q.tm, InstP 929 q.td) :: (q.td, Tmr q.K.clk n t) ::
   (Ring q.root ring'++(q.K.G t0 m0++L))) s'→R (.ok (.ret .none)) s'),codeAny c.M A (.call (.ref 770) ⟨[.ref q.ca,.int key kt,v],[]⟩) R s
theorem T_put {data rows data' rows':List (Int × Value)}{m m' n t t0 m0 key:Int}{mtk kt:Tok}{ring ring':List Nd}{v:Value}:@T_put_P c L s A R q data rows data' rows' m m' n t t0 m0 key mtk kt ring ring' v:=by
 revert c L s A R q data rows data' rows' m m' n t t0 m0 key mtk kt ring ring' v
 walk_at "e5"; intro c L s A R
 walk_at "e9"; intro q data rows data' rows' m m' n t
 walk_at "e5"; intro t0 m0 key mtk kt
 walk_at "e2"; intro ring ring'
 walk_at "e1"; intro v
 intro S hr hn hroom hz hz2 hlive hp h
 rcases hp with ⟨h1,rfl,rfl,rfl,rfl⟩ | ⟨h1,h2,rfl,rfl,rfl,rfl⟩ | ⟨h1,h2,us,vs,nd,key1,rest,v1,e,etk,rfl,hrows,hv,he,ht,rfl,rfl,rfl,rfl⟩
 ·exact T_put_there S (by lia) hroom h1 hz fun s S=>h mtk s S
 ·exact T_put_new S (by lia) hroom h2 h1 hz h
 ·exact T_put_full S hr hn hroom h2 h1 hz hz2 hlive hrows hv he ht h
noncomputable def Lay (a dx:Addr) (key:Int) (kt:Tok) (e:Int) (etk:Tok) (rows:List (Int × Value)) (ring:List Nd) (rows':List (Int × Value)) (ring':List Nd):Prop :=
 (valueAt rows key=none∧rows'=stored rows key (.ref a)∧ring'=ring++[⟨a,dx,.int e etk,.int key kt⟩]) ∨
 (∃ us vs nd,valueAt rows key=some (.ref nd.a)∧ring=us++nd::vs∧a=nd.a∧dx=nd.dx∧rows'=stored (without rows key) key (.ref nd.a)∧ring'=us++vs++[⟨nd.a,nd.dx,.int e etk,nd.k⟩])
noncomputable def T_setitem_P (data rows data' rows':List (Int × Value)) (m m' n t t0 m0 t' t0' m0' key:Int) (mtk kt:Tok) (ex:List Dr) (live ring':List Nd) (v:Value):Prop:=∀ (S:St c ((q.ca, InstP 1155 q.cd) :: (q.cd, Dm (q.D (.int m mtk))) :: (q.dd, DI c data) :: (q.lk, DI c rows) :: (q.tm, InstP 929 q.td) :: (q.td, Tms q.K.clk n t) :: (Ring q.root (ex.map Dr.nd ++ live) ++ (q.K.G t0 m0 ++ L))) s) (hr:A.depth+6<recursionLimit) (hn:0≤n) (hm:Mv q.K n t t0 m0 t' t0' m0') (hroom:1≤q.room) (hd:Due t' rows data ex) (hz:data.length≤900) (hz2:rows.length≤900) (hz3:ex.length≤900) (hlive:∀ b bs, live=b :: bs → ∃ e etk, b.e=.int e etk ∧ t'<e) (hzo:(outs rows ex).length≤900) (hzd:(outs data ex).length≤900) (hz':rows'.length≤900) (hp:Put q.room t' (outs data ex) (outs rows ex) live (m-ex.length) key v data' rows' ring' m') (hl:valueAt rows' key=none ∨ ∃ us vs nd, valueAt rows' key=some (.ref nd.a) ∧ ring'=us ++ nd :: vs) (h:∀ a dx etk tk' rows'' ring'' s', Lay a dx key kt (t'+q.last) etk rows' ring' rows'' ring'' → St c ((q.ca, InstP 1155 q.cd) :: (q.cd, Dm (q.D (.int m' tk'))) :: (q.dd, DI c data') :: (q.lk, DI c rows'') :: (q.tm, InstP 929 q.td) :: (q.td, Tms q.K.clk n t') ::
   (Ring q.root ring''++(q.K.G t0' m0'++L))) s'→R (.ok (.ret .none)) s'),codeAny c.M A (.call (.ref 1100) ⟨[.ref q.ca,.int key kt,v],[]⟩) R s
set_option maxHeartbeats 4000000 in
theorem T_setitem {data rows data' rows':List (Int × Value)}{m m' n t t0 m0 t' t0' m0' key:Int}{mtk kt:Tok}{ex:List Dr}{live ring':List Nd}{v:Value}:@T_setitem_P c L s A R q data rows data' rows' m m' n t t0 m0 t' t0' m0' key mtk kt ex live ring' v:=by
 revert c L s A R q data rows data' rows' m m' n t t0 m0 t' t0' m0' key mtk kt ex live ring' v
 walk_at "e5"; intro c L s A R
 walk_at "e9"; intro q data rows data' rows' m m' n t
 walk_at "e9"; intro t0 m0 t' t0' m0' key mtk kt ex
 walk_at "e2"; intro live ring'
 walk_at "e1"; intro v
 intro S hr hn hm hroom hd hz hz2 hz3 hlive hzo hzd hz' hp hl h
 refine f_call fn1100 [(1,.ref q.ca),(11,.int key kt),(15,v),(63,.ref 770)] S (by lia) (by rfl) (by kernel_rfl!) (by kernel_rfl!) ?_
 intro fr s S
 have F:=fn1100
 refine x_cons ?_
 refine x_wN ?_
 walk_at "g"
 refine e_timer S (by walk_at "m") (by walk_at "m") (by rw [depth_deeper]; lia) fun s S=>?_
 refine ⟨_,_,_,_,rfl,S,by exact ixm 5 rfl,by exact ixm 6 rfl,?_⟩
 refine timer_enter (St.pick2G S (by walk_at "k") (by walk_at "k") (by walk_at "K")) (by rw [depth_deeper]; lia) hm fun ttk s S=>?_
 walk_at "g"
 refine g_meth ‹_› (by exact ixn 2 1 rfl rfl) (by walk_at "c") (by exact ixn 2 2 rfl rfl) (by walk_at "i") (by rfl) (by rfl) ?_
 refine To.K keep1138 ?_
 walk_at "g"
 refine ⟨⟨_,by assumption⟩,T_expire (q:=q) (St.pick4G ‹_› (by walk_at "k") (by walk_at "k") (by walk_at "k") (by walk_at "k") (by walk_at "K")) (by rw [depth_deeper]; lia) hd (by lia) (by lia) hz3 hlive ?_⟩
 intro x tk' told s e1 S
 have S:=S.drop.dropG
 walk_at "g"
 refine To.K keep770 ?_
 walk_at "g"
 rename_i e2 s S2
 have S:St c ((q.ca,InstP 1155 q.cd)::(q.cd,Dm (q.D (.int (m-ex.length) tk')))::(q.dd,DI c (outs data ex))::(q.lk,DI c (outs rows ex))::(q.tm,InstP 929 q.td)::(q.td,Tmr q.K.clk (n+1) t')::(Ring q.root live++(q.K.G t0' m0'++((fr,_)::L)))) _:=S.perm (by walk_at "d")
 refine ⟨⟨_,S⟩,T_put (q:=q) S (by rw [depth_deeper]; lia) (by lia) hroom hzd hzo hlive hp fun tk1 s S=>?_⟩
 walk_at "g"
 obtain ⟨tke,S⟩ : ∃ tke,St c ((q.ca,InstP 1155 q.cd)::(q.cd,Dm (q.D (.int m' tk1)))::(q.dd,DI c data')::(q.lk,DI c rows')::(q.tm,InstP 929 q.td)::(q.td,Tmr q.K.clk (n+1) t')::(Ring q.root ring'++(q.K.G t0' m0'++((fr,Nm [(47,.int (t'+q.last) tke),(35,.int t' ttk),(63,.ref 770),(15,v),(11,.int key kt),(1,.ref q.ca)])::L)))) s:=⟨_,S⟩
 refine timer_exit (St.pick2 S (by walk_at "k") (by walk_at "k")) (by rw [depth_deeper]; lia) fun s S=>?_
 walk_at "g"
 rename_i S _
 refine d_get1 S (by exact ixm 5 rfl) fun s S=>?_
 walk_at "go"
 walk_at "go"
 refine x_cut (fun s=>∃ etk a dx k sl rows'' ring1,St c ((fr,Nm [(59,.ref a),(62,.ref q.lk),(47,.int (t'+q.last) etk),(35,.int t' ttk),(63,.ref 770),(15,v),(11,.int key kt),(1,.ref q.ca)])::(q.ca,InstP 1155 q.cd)::(q.cd,Dm (q.D (.int m' tk1))) ::
  (a,SlP 1063 dx sl)::(dx,Dm [])::(Ring q.root ring1++((q.dd,DI c data')::(q.lk,DI c rows'')::(q.tm,InstP 929 q.td)::(q.td,Tms q.K.clk n t')::(q.K.G t0' m0'++L)))) s∧(sl=[some .none,some k]∨∃ e0 n0 p0,sl=[some e0,some k,some n0,some p0]) ∧
  Lay a dx key kt (t'+q.last) etk rows' ring' rows'' (ring1++[⟨a,dx,.int (t'+q.last) etk,k⟩])) ?_ ?_
 ·rcases hl with hl | ⟨us,vs,nd,hl,hring⟩
  ·rename_i S
   simp only [hl,Option.getD_none] at S
   walk_at "g"
   refine m_cls ‹_› mc1063 fun s S=>?_
   refine To.K keepC1063 ?_
   walk_at "g"
   refine ⟨⟨_,by assumption⟩,T_link1 ‹_› (by rw [depth_deeper]; lia) fun a dx s S=>?_⟩
   walk_at "g"
   refine d_set ‹_› (by walk_at "r") (by lia) fun s S=>?_
   walk_at "g"
   rename_i S
   refine Nxt.ok ⟨tke,a,dx,.int key kt,_,stored rows' key (.ref a),ring',?_,.inl rfl,.inl ⟨hl,rfl,rfl⟩⟩
   have S:=S.pick (p:=(fr,_)) (by walk_at "k")
   have S:=S.weak (P':=Nm [(59,.ref a),(62,.ref q.lk),(47,.int (t'+q.last) tke),(35,.int t' ttk),(63,.ref 770),(15,v),(11,.int key kt),(1,.ref q.ca)]) .here (fun o z=>Nm.norm0 z)
   exact S.perm (by walk_at "d")
  ·rename_i S
   simp only [hl,Option.getD_some] at S
   walk_at "g"
   refine d_pop ‹_› (by walk_at "r") hl (by lia) fun s S=>?_
   walk_at "g"
   have hzw:(without rows' key).length≤900:=Nat.le_trans (List.length_filter_le _ _) hz'
   refine d_set ‹_› (by walk_at "r") (by lia) fun s S=>?_
   walk_at "g"
   subst hring
   refine m_unlink (nd:=nd) ‹_› (by walk_at "K") (by rw [depth_deeper]; lia) fun n' p' s S=>?_
   walk_at "g"
   refine Nxt.ok ⟨tke,nd.a,nd.dx,nd.k,[some nd.e,some nd.k,some (.ref n'),some (.ref p')],stored (without rows' key) key (.ref nd.a),us++vs,?_,.inr ⟨nd.e,.ref n',.ref p',rfl⟩,.inr ⟨us,vs,nd,hl,rfl,rfl,rfl,rfl,rfl⟩⟩
   exact S.perm (by walk_at "d")
 ·intro s hI
  obtain ⟨etk,a,dx,k,sl,rows'',ring1,S,hsl,hlay⟩:=hI
  exact X_append S hsl fun s S=>h a dx etk tk1 rows'' _ _ hlay (S.perm (by walk_at "d"))
end
end
section
section
variable {M:Model}{A:Around}{E:Value→Shared→Prop}{s:Shared}
theorem merge_empty {d m:Addr}{Q:Unit→Shared→Prop} (hd:s.heap.get? d=some emptyDict) (hm:s.heap.get? m=some emptyDict) (lo:(m == sysModules)=false) (h:Q () s) :
  wpAny M A (mergeMapping d (.ref m) true) Q E s:=by
 have tm:s.TypeIs (.ref m) "dict" := ⟨_,hm,rfl⟩
 unfold mergeMapping
 refine wpAny_bind (wpAny_isInstance tm isSubtype_dict_dict ?_)
 rw [if_pos rfl]
 refine wpAny_bind (wpAny_specialOf tm PySem.F.slot_dict_iter.lookup ?_)
 refine wpAny_bind (wpAny_pure ?_)
 simp only [beq_self_eq_true,lo,Bool.false_eq_true,if_false]
 refine wpAny_bind (wpAny_dictEntries hd rfl ?_)
 rw [if_pos (by rfl)]
 refine wpAny_bind (wpAny_dictEntries hm rfl ?_)
 refine wpAny_bind (wpAny_pure ?_)
 refine wpAny_bind (wpAny_dictEntries hm rfl ?_)
 refine wpAny_bind (wpAny_dictEpoch hm rfl ?_)
 exact wpAny_bind (wpAny_pure (wpAny_pure h))
theorem evalArgs_kw {f:Value}{a b x:Sem Value}{Q:Args→Shared→Prop}
  (h:wpAny M A (spliced [(false,a),(true,b)]) (fun vs s1=>wpAny M A x (fun kv s2=>∃ dk,kv=.ref dk∧s2.heap.get? dk=some emptyDict∧s2.heap.get? s1.heap.objs.size=some emptyDict∧(dk == sysModules)=false∧Q ⟨vs,[]⟩ s2) E { s1 with heap:=s1.heap.push emptyDict }) E s) :
  wpAny M A (evalArgs f true [(false,a),(true,b)] [(none,x)]) Q E s:=by
 unfold evalArgs
 refine wpAny_bind (wpAny_mono h (fun vs s1 z=>wpAny_bind (wpAny_pure ?_)) fun _ _ z=>z)
 refine wpAny_holding ?_
 simp only [List.all_cons,List.all_nil,Option.isSome_none,Bool.false_and,Bool.false_eq_true,if_false]
 refine wpAny_bind ?_
 ·unfold mergedKeywords
  refine wpAny_bind (wpAny_alloc ?_)
  refine wpAny_bind (wpAny_holding ?_)
  dsimp only
  rw [List.forIn_cons]
  refine wpAny_bind (wpAny_bind (wpAny_bind ?_))
  rw [if_pos (by rfl)]
  refine wpAny_pure (wpAny_bind (wpAny_mono z (fun kv s2 z=>?_) fun _ _ z=>z))
  obtain ⟨dk,rfl,h1,h2,h3,z⟩:=z
  refine wpAny_bind (wpAny_onRaise (wpAny_holding (wpAny_tryCatch (wpAny_onRaise (merge_empty h2 h1 h3 ?_)))))
  refine wpAny_pure ?_
  dsimp only
  rw [List.forIn_nil]
  refine wpAny_pure ?_
  rw [if_pos (by rfl)]
  refine wpAny_pure (wpAny_pure (wpAny_bind (wpAny_pure (wpAny_bind (wpAny_holding ?_)))))
  unfold keywordsIn
  refine wpAny_bind (wpAny_dictEntries h2 rfl ?_)
  exact wpAny_bind (wpAny_pure (wpAny_pure (wpAny_pure z)))
noncomputable def Tk (M:Model) (A:Around) (pos:Pos) (g:Value) (first:List Value) (a b x:Sem Value) (Q:Value→Shared→Prop) (E:Value→Shared→Prop) (s:Shared):Prop :=
 wpAny M A (callWith pos g first [(false,a),(true,(do let v ← b; standAt pos; pure v))] [(none,(do let v ← x; standAt pos; pure v))]) Q E s
theorem Tk.go {K:Frag}{pos:Pos}{g:Value}{first:List Value}{a b x:Sem Value}{Q:Value→Shared→Prop} (hk:keepIn K g=true)
  (h:wpAny M A a (fun v1 s1=>wpAny M A b (fun v2 s2=>StarOf M A E v2 (fun here s3=>wpAny M A x (fun kv s4=>∃ dk,kv=.ref dk∧s4.heap.get? dk=some emptyDict∧s4.heap.get? s3.heap.objs.size=some emptyDict∧(dk == sysModules)=false ∧
   K.In s4.heap∧wpAny M A (call g (first++(v1::(here++[])))) Q E s4) E { s3 with heap:=s3.heap.push emptyDict }) s2) E s1) E s):Tk M A pos g first a b x Q E s:=by
 unfold Tk callWith
 refine wpAny_bind (wpAny_holding (wpAny_mono (evalArgs_kw (Q:=fun a s₁=>K.In s₁.heap∧wpAny M A (call g (first++a.pos) a.kw) Q E s₁) ?_) (fun a s₁ h₁=>wpAny_bind (wpAny_standAt ?_)) fun _ _ x=>x))
 ·refine spliced_cons (wpAny_mono h (fun v1 s1 h1=>ks_spliced (wpAny_mono h1 (fun v2 s2 h2=>?_) fun _ _ z=>z)) fun _ _ z=>z)
  refine wpAny_mono h2 (fun b' s' z=>?_) fun _ _ z=>z
  refine ⟨z.1,wpAny_mono z.2 (fun here s3 z=>spliced_nil (wpAny_bind (wpAny_mono z (fun kv s4 z=>wpAny_bind (wpAny_standAt (wpAny_pure ?_))) fun _ _ z=>z))) fun _ _ z=>z⟩
  obtain ⟨dk,e,h1,h2,h3,h4,h5⟩:=z
  exact ⟨dk,e,h1,h2,h3,h4,h5⟩
 ·obtain ⟨k,hk',Lk⟩:=keeps_K hk _ h₁.1
  refine wpAny_bind (Lk.here ?_)
  have tail:∀ {t:Sem Value},wpAny M A t Q E s₁→wpAny M A (t >>= fun r=>holding [r] point >>= fun _=>pure r) Q E s₁ :=
   fun ht=>wpAny_bind (wpAny_mono ht (fun r s₂ hr=>wpAny_bind (wpAny_holding (wpAny_point (wpAny_pure hr)))) fun _ _ x=>x)
  have marked (mk:Value):wpAny M A (callMarked mk g (first++a.pos) a.kw) Q E s₁:=by unfold callMarked; exact Calls.wpAny_keep h₁.2
  rcases hk' with rfl | rfl | rfl <;> dsimp only <;> first | exact tail (marked _) | exact tail (wpAny_operating h₁.2)
end
noncomputable def EmD (o:Obj):Prop:=o=emptyDict
section
variable {env:Env}{fr ta:Addr}{l:List (Nat × Value)}{items:List Value}
noncomputable def St.star_P (Q:List Value→Shared→Prop):Prop:=∀ (S:St c ((fr,Nm l)::(ta,TuP items)::L) s) (hz:items.length≤1000) (h:∀ s',St c ((fr,Nm l)::(ta,TuP items)::L) s'→Q items s'),StarOf c.M A E (.ref ta) Q s
theorem St.star {Q:List Value→Shared→Prop}:@St.star_P c L s A E fr ta l items Q:=by
 revert c L s A E fr ta l items Q
 walk_at "e9"; intro c L s A E fr ta l items
 walk_at "e1"; intro Q
 intro S hz h
 obtain ⟨m,ns,hm,F,NN,ft,nd⟩:=S.news
 cases ft with
 | @cons _ _ o _ rest q ft =>
  cases q
  refine star_seq (T := "tuple") (n:=0) F NN (.head _) rfl rfl (.inr rfl) rfl (by rw [List.size_toArray,sizeLine_eq]; lia) fun h' F' N'=>?_
  exact h _ (S.back hm F' N' (.cons rfl ft) nd (fun p hp=>S.low p (.tail _ hp)) rfl)
theorem x_call_star {o e1 e2 kwe:Expr}{n:Str}{apos pos p2 kp:Pos}{Q:Value→Shared→Prop}
  (hp:eval (.Call (.Attribute o n apos) [e1, .Starred e2 p2] [⟨none, kwe, kp⟩] pos) env=do
     let ov ← eval o env
     standAt (Pos.atName apos)
     let x ← holding [ov] (do pure (← getAttr ov n true,([] : List Value)))
     match x with
      | (f,first)=>callWith pos f first (backTo pos (starEach [e1,.Starred e2 p2] env)) (backToKw pos (keywordEach [⟨none,kwe,kp⟩] env)))
  (he:starEach [e1,.Starred e2 p2] env=[(false,eval e1 env),(true,eval e2 env)])
  (h:wpAny c.M A (eval o env) (fun ov s₁=>wpAny c.M A (getAttr ov n true) (fun g s₂=>Tk c.M A pos g [] (eval e1 env) (eval e2 env) (eval kwe env) Q E s₂) E s₁) E s) :
  wpAny c.M A (eval (.Call (.Attribute o n apos) [e1,.Starred e2 p2] [⟨none,kwe,kp⟩] pos) env) Q E s:=by
 rw [hp,he]
 refine wpAny_bind (wpAny_mono h (fun ov s₁ h₁=>wpAny_bind (wpAny_standAt (wpAny_bind (wpAny_holding (wpAny_bind (wpAny_mono h₁ (fun g s₂ h₂=>wpAny_pure ?_) fun _ _ x=>x)))))) fun _ _ x=>x)
 exact h₂
theorem St.emD {a:Addr} (S:St c L s) (h:(a,EmD)∈L):s.heap.get? a=some emptyDict:=by
 obtain ⟨o,e,rfl⟩:=S.get h
 exact e
theorem bind981 {ca:Addr}{a b:Value}:bindArgs Mine.fd981 ⟨[.ref ca,a,b],[]⟩=(do let t ← newTuple [a,b]; let d ← newDict; pure [(nmv 1,.ref ca),(nmv 45,t),(nmv 46,d)]):=by kernel_rfl!
theorem bind988 {ca:Addr}{a b:Value}:bindArgs Mine.fd988 ⟨[.ref ca,a,b],[]⟩=(do let t ← newTuple [a,b]; let d ← newDict; pure [(nmv 1,.ref ca),(nmv 45,t),(nmv 46,d)]):=by kernel_rfl!
theorem bind995 {ca:Addr}{a b:Value}:bindArgs Mine.fd995 ⟨[.ref ca,a,b],[]⟩=(do let t ← newTuple [a,b]; let d ← newDict; pure [(nmv 1,.ref ca),(nmv 45,t),(nmv 46,d)]):=by kernel_rfl!
end
end
section
section
variable {q:TCfg c}{env:Env}{fr:Addr}
theorem dl_moved (l:List (Int × Value)) (k:Int) (v:Value):stored (without l k) k v=without l k++[(k,v)]:=by
 unfold stored
 rw [if_neg]
 simp [without]
theorem dl_back (l:List (Int × Value)) (k:Int) (v:Value):without (without l k++[(k,v)]) k=without l k:=by
 simp [without,List.filter_append,List.filter_filter]
theorem dl_at (l:List (Int × Value)) (k:Int) (v:Value):valueAt (without l k++[(k,v)]) k=some v:=by
 unfold valueAt without
 rw [List.find?_append]
 have:(l.filter fun kv=>decide (kv.1≠k)).find? (fun kv=>decide (kv.1=k))=none:=by
  rw [List.find?_eq_none]
  intro x hx
  have:=(List.mem_filter.mp hx).2
  simpa using this
 rw [this]; simp
theorem links_split {nd:Nd}:∀ (ns:List Nd) (p n:Addr),nd∈ns→∃ n' p' rest,(links p ns n).Perm ((nd.a,Lk nd.dx nd.e nd.k n' p')::(nd.dx,Dm [])::rest)
 | b::bs,p,n,h=>by
  rw [links_cons]
  rcases List.mem_cons.mp h with rfl | h
  ·exact ⟨_,_,_,List.Perm.refl _⟩
  ·obtain ⟨n',p',rest,hp⟩:=links_split bs b.a n h
   refine ⟨n',p',(b.a,Lk b.dx b.e b.k (Mine.hd n bs) p)::(b.dx,Dm [])::rest,((hp.cons _).cons _).trans ?_⟩
   exact ixd [2,2] rfl
theorem ring_split {root nd:Nd}{rs:List Nd} (h:nd∈rs):∃ n p rest,(Ring root rs).Perm ((nd.a,Lk nd.dx nd.e nd.k n p)::(nd.dx,Dm [])::rest):=links_split _ _ _ (.tail _ h)
theorem Frs.deep {f:Addr}{fd:FuncData}{tbl:List (Nat × NameKind)}{l:List (Nat × Value)}{L':List Cell} (F:Fn f fd tbl) (H:Frs A L) (hm:(fr,Nm l)∈L') (hs:∀ p∈L,p∈L'):Frs (A.deeper (envF f fd fr)) L' :=
 (H.deeper (fr:=fr) (l:=l) F).sub fun p hp=>by
  rcases List.mem_cons.mp hp with rfl | hp
  ·exact hm
  ·exact hs p hp
noncomputable def Hit (rows:List (Int × Value)) (ring:List Nd) (key t:Int) (b:Bool):Prop :=
 (∃ nd e etk,valueAt rows key=some (.ref nd.a)∧nd∈ring∧nd.e=.int e etk∧b=decide (t<e))∨(valueAt rows key=none∧b=false)
noncomputable def T_contains_P (rows:List (Int × Value)) (cs:Value) (ring:List Nd) (n t:Int) (kt:Tok) (key:Int) (b:Bool):Prop:=∀ (S:St c ((q.ca,InstP 1155 q.cd)::(q.cd,Dm (q.D cs))::(q.lk,DI c rows)::(q.tm,InstP 929 q.td)::(q.td,Tmr q.K.clk n t)::(Ring q.root ring++L)) s) (hr:A.depth+1<recursionLimit) (hn:n≠0) (H:Frs A L) (hh:A.handled=none) (hk:Hit rows ring key t b) (h:∀ s',St c ((q.ca,InstP 1155 q.cd)::(q.cd,Dm (q.D cs))::(q.lk,DI c rows)::(q.tm,InstP 929 q.td)::(q.td,Tmr q.K.clk n t)::(Ring q.root ring++L)) s'→R (.ok (.ret (.bool b))) s'),codeAny c.M A (.call (.ref 1084) ⟨[.ref q.ca,.int key kt],[]⟩) R s
theorem T_contains {rows:List (Int × Value)}{cs:Value}{ring:List Nd}{n t:Int}{kt:Tok}{key:Int}{b:Bool}:@T_contains_P c L s A R q rows cs ring n t kt key b:=by
 revert c L s A R q rows cs ring n t kt key b
 walk_at "e5"; intro c L s A R
 walk_at "e9"; intro q rows cs ring n t kt key b
 intro S hr hn H hh hk h
 rcases hk with ⟨nd,e,etk,h1,h2,h3,rfl⟩ | ⟨h1,rfl⟩
 ·obtain ⟨n',p',rest,hp⟩:=ring_split (root:=q.root) h2
  obtain ⟨na,ndx,ne,nk⟩:=nd
  dsimp only at h3 h1 hp
  subst h3
  have P:=((((((hp.append_right L).cons (q.td,Tmr q.K.clk n t)).cons (q.tm,InstP 929 q.td)).cons (q.lk,DI c rows)).cons (q.cd,Dm (q.D cs))).cons (q.ca,InstP 1155 q.cd))
  exact T_contains_there (nd:=⟨na,ndx,.int e etk,nk⟩) (S.perm P.symm) hr hn h1 fun s S=>h s (S.perm P)
 ·refine T_contains_not (L:=(q.tm,InstP 929 q.td)::(q.td,Tmr q.K.clk n t)::(Ring q.root ring++L)) S (H.sub fun p hp=>.tail _ (.tail _ (List.mem_append_right _ hp))) hh (by lia) h1 h
theorem T_item {rows data:List (Int × Value)}{cs v:Value}{ring:List Nd}{nd:Nd}{n t e:Int}{etk kt:Tok}{key:Int}
  (S:St c ((q.ca,InstP 1155 q.cd)::(q.cd,Dm (q.D cs))::(q.dd,DI c data)::(q.lk,DI c rows)::(q.tm,InstP 929 q.td)::(q.td,Tmr q.K.clk n t)::(Ring q.root ring++L)) s) (hr:A.depth+1<recursionLimit)
  (hn:n≠0) (h1:valueAt rows key=some (.ref nd.a)) (h2:nd∈ring) (h3:nd.e=.int e etk) (ht:t<e) (hv:valueAt data key=some v) (hz:rows.length≤900)
  (h:∀ s',St c ((q.ca,InstP 1155 q.cd)::(q.cd,Dm (q.D cs))::(q.dd,DI c data)::(q.lk,DI c (without rows key++[(key,.ref nd.a)]))::(q.tm,InstP 929 q.td)::(q.td,Tmr q.K.clk n t)::(Ring q.root ring++L)) s'→R (.ok (.ret v)) s') :
  codeAny c.M A (.call (.ref 1092) ⟨[.ref q.ca,.int key kt],[]⟩) R s:=by
 obtain ⟨n',p',rest,hp⟩:=ring_split (root:=q.root) h2
 obtain ⟨na,ndx,ne,nk⟩:=nd
 dsimp only at h3 h1 hp h
 subst h3
 have P:=fun r=>(((((((hp.append_right L).cons (q.td,Tmr q.K.clk n t)).cons (q.tm,InstP 929 q.td)).cons (q.lk,DI c r)).cons (q.dd,DI c data)).cons (q.cd,Dm (q.D cs))).cons (q.ca,InstP 1155 q.cd))
 refine T_getitem_live (nd:=⟨na,ndx,.int e etk,nk⟩) (S.perm (P _).symm) hr hn h1 hv ht (by lia) fun s S=>?_
 rw [dl_moved] at S
 exact h s (S.perm (P _))

set_option maxHeartbeats 1000000 in
theorem T_get {rows data:List (Int × Value)}{cs v:Value}{ring:List Nd}{nd:Nd}{n t e:Int}{etk kt:Tok}{key:Int}{dv:Value}
  (S:St c ((q.ca,InstP 1155 q.cd)::(q.cd,Dm (q.D cs))::(q.dd,DI c data)::(q.lk,DI c rows)::(q.tm,InstP 929 q.td)::(q.td,Tmr q.K.clk n t)::(Ring q.root ring++L)) s) (hr:A.depth+2<recursionLimit)
  (hn:n≠0) (H:Frs A L) (hh:A.handled=none) (h1:valueAt rows key=some (.ref nd.a)) (h2:nd∈ring) (h3:nd.e=.int e etk) (ht:t<e) (hv:valueAt data key=some v) (hz:rows.length≤900)
  (h:∀ s',St c ((q.ca,InstP 1155 q.cd)::(q.cd,Dm (q.D cs))::(q.dd,DI c data)::(q.lk,DI c (without rows key++[(key,.ref nd.a)]))::(q.tm,InstP 929 q.td)::(q.td,Tmr q.K.clk n t)::(Ring q.root ring++L)) s'→R (.ok (.ret v)) s') :
  codeAny c.M A (.call (.ref 813) ⟨[.ref q.ca,.int key kt,dv],[]⟩) R s:=by
 refine f_call fn813 [(1,.ref q.ca),(11,.int key kt),(26,dv)] S (by lia) (by rfl) (by kernel_rfl!) (by kernel_rfl!) ?_
 intro fr s S
 have F:=fn813
 walk_at "g"
 refine i_in S (by walk_at "m") (by walk_at "m") (by walk_at "m") sp_in ?_
 have S1:St c ((q.ca,InstP 1155 q.cd)::(q.cd,Dm (q.D cs))::(q.lk,DI c rows)::(q.tm,InstP 929 q.td)::(q.td,Tmr q.K.clk n t)::(Ring q.root ring++((fr,Nm [(26,dv),(11,.int key kt),(1,.ref q.ca)])::(q.dd,DI c data)::L))) s:=S.perm (by exact ixe 7 5 [1,1,2,2,2,0] rfl rfl rfl)
 refine T_contains S1 (by rw [depth_deeper]; lia) hn (Frs.deep (l:=[(26,dv),(11,.int key kt),(1,.ref q.ca)]) F H (.head _) fun p hp=>.tail _ (.tail _ hp)) hh (.inl ⟨nd,e,etk,h1,h2,h3,(decide_eq_true ht).symm⟩) fun s S=>?_
 refine ⟨_,rfl,?_⟩
 walk_at "g"
 refine i_get S (by exact ixn 5 0 rfl rfl) (by walk_at "m") (by walk_at "m") sp_get ?_
 have S1:St c ((q.ca,InstP 1155 q.cd)::(q.cd,Dm (q.D cs))::(q.dd,DI c data)::(q.lk,DI c rows)::(q.tm,InstP 929 q.td)::(q.td,Tmr q.K.clk n t)::(Ring q.root ring++((fr,Nm [(26,dv),(11,.int key kt),(1,.ref q.ca)])::L))) s:=S.perm (by exact ixe 5 6 [0,0,4] rfl rfl rfl)
 refine T_item S1 (by rw [depth_in1,depth_deeper]; lia) hn h1 h2 h3 ht hv hz fun s S=>?_
 walk_at "g"
 exact h _ ((S.dropAt (p:=(fr,_)) (by walk_at "k")).perm (by exact .refl _))
theorem T_get_no {rows data:List (Int × Value)}{cs:Value}{ring:List Nd}{n t:Int}{kt:Tok}{key:Int}{dv:Value}
  (S:St c ((q.ca,InstP 1155 q.cd)::(q.cd,Dm (q.D cs))::(q.dd,DI c data)::(q.lk,DI c rows)::(q.tm,InstP 929 q.td)::(q.td,Tmr q.K.clk n t)::(Ring q.root ring++L)) s) (hr:A.depth+2<recursionLimit)
  (hn:n≠0) (H:Frs A L) (hh:A.handled=none) (hk:Hit rows ring key t false)
  (h:∀ s',St c ((q.ca,InstP 1155 q.cd)::(q.cd,Dm (q.D cs))::(q.dd,DI c data)::(q.lk,DI c rows)::(q.tm,InstP 929 q.td)::(q.td,Tmr q.K.clk n t)::(Ring q.root ring++L)) s'→R (.ok (.ret dv)) s') :
  codeAny c.M A (.call (.ref 813) ⟨[.ref q.ca,.int key kt,dv],[]⟩) R s:=by
 refine f_call fn813 [(1,.ref q.ca),(11,.int key kt),(26,dv)] S (by lia) (by rfl) (by kernel_rfl!) (by kernel_rfl!) ?_
 intro fr s S
 have F:=fn813
 walk_at "g"
 refine i_in S (by walk_at "m") (by walk_at "m") (by walk_at "m") sp_in ?_
 have S1:St c ((q.ca,InstP 1155 q.cd)::(q.cd,Dm (q.D cs))::(q.lk,DI c rows)::(q.tm,InstP 929 q.td)::(q.td,Tmr q.K.clk n t)::(Ring q.root ring++((fr,Nm [(26,dv),(11,.int key kt),(1,.ref q.ca)])::(q.dd,DI c data)::L))) s:=S.perm (by exact ixe 7 5 [1,1,2,2,2,0] rfl rfl rfl)
 refine T_contains S1 (by rw [depth_deeper]; lia) hn (Frs.deep (l:=[(26,dv),(11,.int key kt),(1,.ref q.ca)]) F H (.head _) fun p hp=>.tail _ (.tail _ hp)) hh hk fun s S=>?_
 refine ⟨_,rfl,?_⟩
 walk_at "g"
 exact h _ ((S.dropAt (p:=(fr,_)) (by walk_at "k")).perm (by exact ixe 5 6 [0,0,3] rfl rfl rfl))
end
end
section
section
variable {q:TCfg c}{env:Env}{fr:Addr}
theorem x_is_ir {i:Int}{t:Tok}{a:Addr}{Q:Value→Shared→Prop} (h:Q (.bool false) s):wpAny c.M A (compareOp .Is (.int i t) (.ref a)) Q E s:=wpAny_is_plain rfl h
set_option maxHeartbeats 1000000 in
theorem T_pop {rows data:List (Int × Value)}{v:Value}{us vs:List Nd}{nd:Nd}{m n t e:Int}{mtk etk kt:Tok}{key:Int}{dv:Value}
  (S:St c ((q.ca,InstP 1155 q.cd)::(q.cd,Dm (q.D (.int m mtk)))::(q.dd,DI c data)::(q.lk,DI c rows)::(q.tm,InstP 929 q.td)::(q.td,Tmr q.K.clk n t)::(Ring q.root (us++nd::vs)++L)) s) (hr:A.depth+2<recursionLimit)
  (hn:n≠0) (H:Frs A L) (hh:A.handled=none) (h1:valueAt rows key=some (.ref nd.a)) (h3:nd.e=.int e etk) (ht:t<e) (hv:valueAt data key=some v) (hz:rows.length≤900) (hz2:data.length≤900)
  (h:∀ tk s',St c ((q.ca,InstP 1155 q.cd)::(q.cd,Dm (q.D (.int (m-1) tk)))::(q.dd,DI c (without data key))::(q.lk,DI c (without rows key))::(q.tm,InstP 929 q.td)::(q.td,Tmr q.K.clk n t)::(Ring q.root (us++vs)++L)) s'→R (.ok (.ret v)) s') :
  codeAny c.M A (.call (.ref 821) ⟨[.ref q.ca,.int key kt,dv],[]⟩) R s:=by
 have h2:nd∈us++nd::vs:=List.mem_append_right _ (.head _)
 refine f_call fn821 [(1,.ref q.ca),(11,.int key kt),(26,dv)] S (by lia) (by rfl) (by kernel_rfl!) (by kernel_rfl!) ?_
 intro fr s S
 have F:=fn821
 walk_at "g"
 refine i_in S (by walk_at "m") (by walk_at "m") (by walk_at "m") sp_in ?_
 have S1:St c ((q.ca,InstP 1155 q.cd)::(q.cd,Dm (q.D (.int m mtk)))::(q.lk,DI c rows)::(q.tm,InstP 929 q.td)::(q.td,Tmr q.K.clk n t)::(Ring q.root (us++nd::vs)++((fr,Nm [(26,dv),(11,.int key kt),(1,.ref q.ca)])::(q.dd,DI c data)::L))) s:=S.perm (by exact ixe 7 5 [1,1,2,2,2,0] rfl rfl rfl)
 refine T_contains S1 (by rw [depth_deeper]; lia) hn (Frs.deep (l:=[(26,dv),(11,.int key kt),(1,.ref q.ca)]) F H (.head _) fun p hp=>.tail _ (.tail _ hp)) hh (.inl ⟨nd,e,etk,h1,h2,h3,(decide_eq_true ht).symm⟩) fun s S=>?_
 refine ⟨_,rfl,?_⟩
 walk_at "g"
 refine i_get S (by exact ixn 5 0 rfl rfl) (by walk_at "m") (by walk_at "m") sp_get ?_
 have S1:St c ((q.ca,InstP 1155 q.cd)::(q.cd,Dm (q.D (.int m mtk)))::(q.dd,DI c data)::(q.lk,DI c rows)::(q.tm,InstP 929 q.td)::(q.td,Tmr q.K.clk n t)::(Ring q.root (us++nd::vs)++((fr,Nm [(26,dv),(11,.int key kt),(1,.ref q.ca)])::L))) s:=S.perm (by exact ixe 5 6 [0,0,4] rfl rfl rfl)
 refine T_item S1 (by rw [depth_in1,depth_deeper]; lia) hn h1 h2 h3 ht hv hz fun s S=>?_
 walk_at "g"
 have hzl:(without rows key++[(key,Value.ref nd.a)]).length≤1000:=by
  have:(without rows key).length≤rows.length:=List.length_filter_le _ _
  rw [List.length_append]; simp only [List.length_cons,List.length_nil]; lia
 refine i_del ‹_› (by walk_at "m") (by walk_at "m") sp_del ?_
 refine T_del_live (q:=q) (St.pick6G ‹_› (by walk_at "k") (by walk_at "k") (by walk_at "k") (by walk_at "k") (by walk_at "k") (by walk_at "k") (by walk_at "K")) (by rw [depth_deeper]; lia) hn (dl_at _ _ _) (by rw [hv]; rfl) h3 ht hzl (by lia) fun tk s S=>?_
 rw [dl_back] at S
 walk_at "g"
 exact h tk _ ((S.dropAt (p:=(fr,_)) (by walk_at "k")).perm (by exact .refl _))
theorem T_pop_no {rows data:List (Int × Value)}{cs:Value}{ring:List Nd}{n t:Int}{kt dtk:Tok}{key dv:Int}
  (S:St c ((q.ca,InstP 1155 q.cd)::(q.cd,Dm (q.D cs))::(q.dd,DI c data)::(q.lk,DI c rows)::(q.tm,InstP 929 q.td)::(q.td,Tmr q.K.clk n t)::(Ring q.root ring++L)) s) (hr:A.depth+2<recursionLimit)
  (hn:n≠0) (H:Frs A L) (hh:A.handled=none) (hk:Hit rows ring key t false)
  (h:∀ s',St c ((q.ca,InstP 1155 q.cd)::(q.cd,Dm (q.D cs))::(q.dd,DI c data)::(q.lk,DI c rows)::(q.tm,InstP 929 q.td)::(q.td,Tmr q.K.clk n t)::(Ring q.root ring++L)) s'→R (.ok (.ret (.int dv dtk))) s') :
  codeAny c.M A (.call (.ref 821) ⟨[.ref q.ca,.int key kt,.int dv dtk],[]⟩) R s:=by
 refine f_call fn821 [(1,.ref q.ca),(11,.int key kt),(26,.int dv dtk)] S (by lia) (by rfl) (by kernel_rfl!) (by kernel_rfl!) ?_
 intro fr s S
 have F:=fn821
 walk_at "g"
 refine i_in S (by walk_at "m") (by walk_at "m") (by walk_at "m") sp_in ?_
 have S1:St c ((q.ca,InstP 1155 q.cd)::(q.cd,Dm (q.D cs))::(q.lk,DI c rows)::(q.tm,InstP 929 q.td)::(q.td,Tmr q.K.clk n t)::(Ring q.root ring++((fr,Nm [(26,.int dv dtk),(11,.int key kt),(1,.ref q.ca)])::(q.dd,DI c data)::L))) s:=S.perm (by exact ixe 7 5 [1,1,2,2,2,0] rfl rfl rfl)
 refine T_contains S1 (by rw [depth_deeper]; lia) hn (Frs.deep (l:=[(26,.int dv dtk),(11,.int key kt),(1,.ref q.ca)]) F H (.head _) fun p hp=>.tail _ (.tail _ hp)) hh hk fun s S=>?_
 refine ⟨_,rfl,?_⟩
 walk_at "g"
 refine x_is_ir ?_
 walk_at "g"
 rename_i S
 exact h _ ((S.dropAt (p:=(fr,_)) (by walk_at "k")).perm (by exact ixe 5 6 [0,0,3] rfl rfl rfl))
set_option maxHeartbeats 1000000 in
theorem T_setdef {rows data:List (Int × Value)}{v:Value}{ring:List Nd}{nd:Nd}{cs:Value}{n t e:Int}{etk kt:Tok}{key:Int}{dv:Value}
  (S:St c ((q.ca,InstP 1155 q.cd)::(q.cd,Dm (q.D cs))::(q.dd,DI c data)::(q.lk,DI c rows)::(q.tm,InstP 929 q.td)::(q.td,Tmr q.K.clk n t)::(Ring q.root ring++L)) s) (hr:A.depth+2<recursionLimit)
  (hn:n≠0) (H:Frs A L) (hh:A.handled=none) (h1:valueAt rows key=some (.ref nd.a)) (h2:nd∈ring) (h3:nd.e=.int e etk) (ht:t<e) (hv:valueAt data key=some v) (hz:rows.length≤900)
  (h:∀ s',St c ((q.ca,InstP 1155 q.cd)::(q.cd,Dm (q.D cs))::(q.dd,DI c data)::(q.lk,DI c (without rows key++[(key,.ref nd.a)]))::(q.tm,InstP 929 q.td)::(q.td,Tmr q.K.clk n t)::(Ring q.root ring++L)) s'→R (.ok (.ret v)) s') :
  codeAny c.M A (.call (.ref 829) ⟨[.ref q.ca,.int key kt,dv],[]⟩) R s:=by
 refine f_call fn829 [(1,.ref q.ca),(11,.int key kt),(26,dv)] S (by lia) (by rfl) (by kernel_rfl!) (by kernel_rfl!) ?_
 intro fr s S
 have F:=fn829
 walk_at "g"
 refine i_in S (by walk_at "m") (by walk_at "m") (by walk_at "m") sp_in ?_
 have S1:St c ((q.ca,InstP 1155 q.cd)::(q.cd,Dm (q.D cs))::(q.lk,DI c rows)::(q.tm,InstP 929 q.td)::(q.td,Tmr q.K.clk n t)::(Ring q.root ring++((fr,Nm [(26,dv),(11,.int key kt),(1,.ref q.ca)])::(q.dd,DI c data)::L))) s:=S.perm (by exact ixe 7 5 [1,1,2,2,2,0] rfl rfl rfl)
 refine T_contains S1 (by rw [depth_deeper]; lia) hn (Frs.deep (l:=[(26,dv),(11,.int key kt),(1,.ref q.ca)]) F H (.head _) fun p hp=>.tail _ (.tail _ hp)) hh (.inl ⟨nd,e,etk,h1,h2,h3,(decide_eq_true ht).symm⟩) fun s S=>?_
 refine ⟨_,rfl,?_⟩
 walk_at "g"
 refine i_get S (by exact ixn 5 0 rfl rfl) (by walk_at "m") (by walk_at "m") sp_get ?_
 have S1:St c ((q.ca,InstP 1155 q.cd)::(q.cd,Dm (q.D cs))::(q.dd,DI c data)::(q.lk,DI c rows)::(q.tm,InstP 929 q.td)::(q.td,Tmr q.K.clk n t)::(Ring q.root ring++((fr,Nm [(26,dv),(11,.int key kt),(1,.ref q.ca)])::L))) s:=S.perm (by exact ixe 5 6 [0,0,4] rfl rfl rfl)
 refine T_item S1 (by rw [depth_in1,depth_deeper]; lia) hn h1 h2 h3 ht hv hz fun s S=>?_
 walk_at "g"
 rename_i S
 exact h _ ((S.dropAt (p:=(fr,_)) (by walk_at "k")).perm (by exact .refl _))
set_option maxHeartbeats 2000000 in
theorem T_setdef_put {data rows data' rows':List (Int × Value)}{m m' n t t0 m0 key:Int}{mtk kt:Tok}{ex:List Dr}{live ring':List Nd}{v:Value}
  (S:St c ((q.ca,InstP 1155 q.cd)::(q.cd,Dm (q.D (.int m mtk)))::(q.dd,DI c data)::(q.lk,DI c rows)::(q.tm,InstP 929 q.td)::(q.td,Tmr q.K.clk n t)::(Ring q.root (ex.map Dr.nd++live)++(q.K.G t0 m0++L))) s)
  (hr:A.depth+7<recursionLimit) (hn:0<n) (hroom:1≤q.room) (H:Frs A L) (hh:A.handled=none) (hk:Hit rows (ex.map Dr.nd++live) key t false)
  (hd:Due t rows data ex) (hz:data.length≤900) (hz2:rows.length≤900) (hz3:ex.length≤900)
  (hlive:∀ b bs,live=b::bs→∃ e etk,b.e=.int e etk∧t<e) (hzo:(outs rows ex).length≤900) (hzd:(outs data ex).length≤900) (hz':rows'.length≤900)
  (hp:Put q.room t (outs data ex) (outs rows ex) live (m-ex.length) key v data' rows' ring' m')
  (hl:valueAt rows' key=none∨∃ us vs nd,valueAt rows' key=some (.ref nd.a)∧ring'=us++nd::vs)
  (h:∀ a dx etk tk' rows'' ring'' s',Lay a dx key kt (t+q.last) etk rows' ring' rows'' ring''→St c ((q.ca,InstP 1155 q.cd)::(q.cd,Dm (q.D (.int m' tk')))::(q.dd,DI c data')::(q.lk,DI c rows'')::(q.tm,InstP 929 q.td)::(q.td,Tmr q.K.clk n t) ::
   (Ring q.root ring''++(q.K.G t0 m0++L))) s'→R (.ok (.ret v)) s') :
  codeAny c.M A (.call (.ref 829) ⟨[.ref q.ca,.int key kt,v],[]⟩) R s:=by
 have n0:n≠0:=by lia
 refine f_call fn829 [(1,.ref q.ca),(11,.int key kt),(26,v)] S (by lia) (by rfl) (by kernel_rfl!) (by kernel_rfl!) ?_
 intro fr s S
 have F:=fn829
 walk_at "g"
 refine i_in S (by walk_at "m") (by walk_at "m") (by walk_at "m") sp_in ?_
 have S1:St c ((q.ca,InstP 1155 q.cd)::(q.cd,Dm (q.D (.int m mtk)))::(q.lk,DI c rows)::(q.tm,InstP 929 q.td)::(q.td,Tmr q.K.clk n t)::(Ring q.root (ex.map Dr.nd++live)++((fr,Nm [(26,v),(11,.int key kt),(1,.ref q.ca)])::(q.dd,DI c data)::(q.K.G t0 m0++L)))) s:=S.perm (by walk_at "d")
 refine T_contains S1 (by rw [depth_deeper]; lia) n0 (Frs.deep (l:=[(26,v),(11,.int key kt),(1,.ref q.ca)]) F H (.head _) fun p hp=>.tail _ (.tail _ (List.mem_append_right _ hp))) hh hk fun s S=>?_
 refine ⟨_,rfl,?_⟩
 walk_at "g"
 refine i_set ‹_› (by exact ixn 5 0 rfl rfl) (by walk_at "m") (by walk_at "m") sp_set ?_
 have S1:St c ((q.ca,InstP 1155 q.cd)::(q.cd,Dm (q.D (.int m mtk)))::(q.dd,DI c data)::(q.lk,DI c rows)::(q.tm,InstP 929 q.td)::(q.td,Tmr q.K.clk n t)::(Ring q.root (ex.map Dr.nd++live)++(q.K.G t0 m0++((fr,Nm [(26,v),(11,.int key kt),(1,.ref q.ca)])::L)))) s:=S.perm (by walk_at "d")
 have S2:=S1.weak (a:=q.td) (P':=Tms q.K.clk n t) (by walk_at "r") fun o z=>Tms.of z
 refine T_setitem S2 (by rw [depth_deeper]; lia) (by lia) (.inl ⟨n0,rfl,rfl,rfl⟩) hroom hd hz hz2 hz3 hlive hzo hzd hz' hp hl fun a dx etk tk' rows'' ring'' s hlay S=>?_
 have S:=S.weak (a:=q.td) (P':=Tmr q.K.clk n t) (by walk_at "r") fun o z=>(Tms.pos n0).mp z
 walk_at "g"
 rename_i S
 exact h a dx etk tk' rows'' ring'' _ hlay ((S.dropAt (p:=(fr,_)) (by walk_at "k")).perm (by exact .refl _))
end
end
section
section
variable {q:TCfg c}{env:Env}{fr:Addr}
theorem keep813 (P:Params):keepIn (Mine.K P) (.ref 813)=true:=by kernel_rfl!
theorem keep821 (P:Params):keepIn (Mine.K P) (.ref 821)=true:=by kernel_rfl!
theorem keep829 (P:Params):keepIn (Mine.K P) (.ref 829)=true:=by kernel_rfl!
theorem star_binds {ca:Addr}{a b:Value}{Q:List (Str × Value)→Shared→Prop} (S:St c L s) (h:∀ ta ka s',St c ((ka,EmD)::(ta,TuP [a,b])::L) s'→Q [(nmv 1,.ref ca),(nmv 45,.ref ta),(nmv 46,.ref ka)] s') :
  wpAny c.M A (do let t ← newTuple [a,b]; let d ← newDict; pure [(nmv 1,.ref ca),(nmv 45,t),(nmv 46,d)]) Q E s:=by
 have S1:=(S.push { cls:=.type "tuple", data:=.seq #[a,b] } rfl (P:=TuP [a,b]) rfl (d:=s.drawn) (t:=s.toks) (os:=s.os))
 have S2:=S1.push emptyDict rfl (P:=EmD) rfl (d:=s.drawn) (t:=s.toks) (os:=s.os)
 exact wpAny_bind (wpAny_newTuple (wpAny_bind (wpAny_newObj_type (wpAny_pure (h _ _ _ S2)))))
theorem cls_get (P:Params):clsOk (Mine.K P) 865 (.ref 124) "get" (.ref 813)=true:=by kernel_rfl!
theorem cls_pop (P:Params):clsOk (Mine.K P) 865 (.ref 124) "pop" (.ref 821)=true:=by kernel_rfl!
theorem cls_setdef (P:Params):clsOk (Mine.K P) 865 (.ref 124) "setdefault" (.ref 829)=true:=by kernel_rfl!
end
end
section
section
variable {f fr e:Addr}{cls:Value}{fd:FuncData}{tbl:List (Nat × NameKind)}{l:List (Nat × Value)}{env:Env}

structure Ow (c:Cx) (L:List Cell) (e:Addr) (cls:Value) (x1 x2:Value) (s:Shared):Prop where
 St:St c L s
 there:∃ oe vs,s.heap.get? e=some oe∧oe.cls=cls∧oe.data=.fields vs∧vs[1]? = some x1∧vs[2]? = some x2∧5≤vs.size∧c.h₀.get? e=none∧e ∉ L.map (·.1)∧e ∉ c.k.map (·.1)
structure Tw (c:Cx) (L:List Cell) (e:Addr) (cls v x2:Value) (s:Shared):Prop where
 St:Mine.St c L s
 there:∃ oe vs T oT ts,s.heap.get? e=some oe∧oe.cls=cls∧oe.data=.fields vs∧vs[1]? = some (.ref T)∧T≠e∧s.heap.get? T=some oT∧oT.data=.fields ts∧ts[3]? = some v ∧
  c.h₀.get? e=none∧c.h₀.get? T=none∧e ∉ L.map (·.1)∧T ∉ L.map (·.1)∧e ∉ c.k.map (·.1)∧T ∉ c.k.map (·.1)∧vs[2]? = some x2∧5≤vs.size
theorem Ow.of {T:String}{h':Heap}{g:Array GenState}{d:Drawn}{t:Nat}{os:OsState} (S:Mine.St c L s) (hf:∃ p∈L,True) (x:Heap.NewExc s.heap h' e T) (hg:g=s.gens) (hos:autoParam (os=s.os) aR):Ow c L e (.type T) .none .none ⟨h',g,d,t,os⟩:=by
 have X:=Nx.of (d:=d) (t:=t) (os:=os) S hf x hg hos
 obtain ⟨keeps,new,ob,t',h1,h2,h3⟩:=x
 obtain ⟨S',oe,vs,k1,k2,k3,k4,k5,k6,k7⟩:=X
 exact ⟨S',ob,_,h1,h2,h3,rfl,rfl,Nat.le_of_ble_eq_true (by rfl),k5,k6,k7⟩
structure Sk (A:Around) (env:Env) (fr:Addr) (L:List Cell):Prop where
 H:Frs A L
 top:Top A env
 frame:env.frame=some fr

noncomputable def note_core_P (x1 x2 head:Value) (hadNext:Bool) (Q:Unit→Shared→Prop):Prop:=∀ (X:Ow c L e cls x1 x2 s) (K:Sk A env fr L) (h:∀ s',Tw c L e cls (rawInt fr) x2 s'→Q () s'),wpAny c.M A (do let a ← frameOf env; let pl ← entryPlaceOf fr hadNext; let b ← EntryCells.newEntry head a .none (rawInt fr) .none pl; setField (.ref e) 1 b) Q E s
theorem note_core {x1 x2 head:Value}{hadNext:Bool}{Q:Unit→Shared→Prop}:@note_core_P c L s A E fr e cls env x1 x2 head hadNext Q:=by
 revert c L s A E fr e cls env x1 x2 head hadNext Q
 walk_at "e9"; intro c L s A E fr e cls env
 walk_at "e5"; intro x1 x2 head hadNext Q
 intro X K h
 obtain ⟨S,oe,vs,h1,h2,h3,h4,h5,hz,h6,h7,h8⟩:=X
 obtain ⟨H,ht,hf⟩:=K
 have some_:=H.some_ ht
 obtain ⟨envs,a1,a2⟩:=H
 obtain ⟨outer,ht⟩:=ht
 rw [a1] at ht
 cases ht
 have ff:=Frs.fun_ (base:=cut ((env::outer).filterMap (·.frame)) s.heap) S a2 fun b hb=>cut_in hb
 have framecell:∀ b∈(env::outer).filterMap (·.frame),∃ l,(b,Nm l)∈L:=by
  intro b hb
  obtain ⟨env',h3',h4'⟩:=List.mem_filterMap.mp hb
  obtain ⟨_,fr',l,a,q⟩:=a2 env' h3'
  rw [h4'] at a; cases a
  exact ⟨l,q⟩
 refine wpAny_bind (wpAny_frameOf_fun a1 ff hf fun h₁ hs₁=>?_)
 refine wpAny_bind (wpAny_entryPlaceOf fun pl hpl=>?_)
 unfold EntryCells.newEntry newFields
 refine wpAny_bind (wpAny_newObj_type ?_ (hpl.sizeOk5 _ _ _ _ _))
 have ene:e ∉ (env::outer).filterMap (·.frame):=fun hm=>by
  obtain ⟨l,hl⟩:=framecell e hm
  exact h7 (List.mem_map.mpr ⟨_,hl,rfl⟩)
 have he₁:h₁.get? e=some oe:=(hs₁.2.1 e ene).trans h1
 have he₂:=Heap.get?_push_of_some (h:=h₁) { cls:=.type "traceback", dict:=none,data:=.fields ([head,.ref fr,.none,rawInt fr,.none]++(if pl.isEmpty then List.replicate 6 Value.none else pl)).toArray } he₁
 refine wpAny_setField he₂ h3 (Array.getElem?_eq_some_iff.mp h4).1 (h _ ?_)
 have hTe:h₁.objs.size≠e:=Nat.ne_of_gt (Heap.lt_size he₁)
 have hd₃:=Obj.data_mapFields h3 (·.setIfInBounds 1 (Value.ref h₁.objs.size))
 have he₃:=Heap.get?_update_self (Obj.mapFields (·.setIfInBounds 1 (Value.ref h₁.objs.size))) he₂ (Obj.isFreed_of_fields hd₃)
 have hT₃:=(Heap.get?_update_other (h₁.push { cls:=.type "traceback", dict:=none,data:=.fields ([head,.ref fr,.none,rawInt fr,.none]++(if pl.isEmpty then List.replicate 6 Value.none else pl)).toArray })
  (Obj.mapFields (·.setIfInBounds 1 (Value.ref h₁.objs.size))) (Ne.symm hTe)).trans (Heap.get?_push_size h₁ rfl)
 have keep:∀ b o,b≠e→h₁.get? b=some o →
   ((h₁.push { cls:=.type "traceback", dict:=none,data:=.fields ([head,.ref fr,.none,rawInt fr,.none]++(if pl.isEmpty then List.replicate 6 Value.none else pl)).toArray }).update e (Obj.mapFields (·.setIfInBounds 1 (Value.ref h₁.objs.size)))).get? b=some o:=fun b o hbe hb=>by
  rw [Heap.get?_update_other _ _ (Ne.symm hbe)]
  exact Heap.get?_push_of_some _ hb
 have cells:∀ p∈L,∃ o,((h₁.push { cls:=.type "traceback", dict:=none,data:=.fields ([head,.ref fr,.none,rawInt fr,.none]++(if pl.isEmpty then List.replicate 6 Value.none else pl)).toArray }).update e (Obj.mapFields (·.setIfInBounds 1 (Value.ref h₁.objs.size)))).get? p.1=some o∧p.2 o:=by
  intro p hp
  obtain ⟨o,a,q⟩:=S.cells p hp
  have ne:p.1≠e:=fun z=>h7 (z ▸ List.mem_map_of_mem hp)
  by_cases hm:p.1∈(env::outer).filterMap (·.frame)
  ·obtain ⟨l,hl⟩:=framecell _ hm
   have same:p=(p.1,Nm l):=Mine.key_inj S.nodup hp hl rfl
   obtain ⟨sl,hs⟩:=hs₁.2.2 _ _ a
   refine ⟨_,keep _ _ ne hs,?_⟩
   rw [same] at q ⊢
   exact q
  ·exact ⟨o,keep _ _ ne ((hs₁.2.1 _ hm).trans a),q⟩
 have S':Mine.St c L ⟨_,s.gens,s.drawn,s.toks,s.os⟩:=⟨S.ok,fun b o hb=>keep b o (fun z=>by rw [z,h6] at hb; cases hb) ((hs₁.2.1 b fun hm=>by
   obtain ⟨l,hl⟩:=framecell _ hm
   have:=S.apart _ hl
   rw [this] at hb; cases hb).trans (S.base b o hb)),cells,S.apart,S.nodup,S.gens,S.low,(by
   obtain ⟨p,hp,_⟩:=some_
   obtain ⟨o,a,_⟩:=cells p hp
   exact Nat.le_trans (S.low p hp) (Nat.le_of_lt (Heap.lt_size a))),fun p hp=>keep _ _ (fun z=>h8 (z ▸ List.mem_map_of_mem hp)) ((hs₁.2.1 _ fun hm=>by
   obtain ⟨l,hl⟩:=framecell _ hm
   exact S.apK _ hl (List.mem_map_of_mem hp)).trans (S.kept p hp)),S.apK,S.os⟩
 have Tnew:∀ a o,s.heap.get? a=some o→a≠h₁.objs.size:=fun a o ha=>Nat.ne_of_lt (by rw [hs₁.1]; exact Heap.lt_size ha)
 refine ⟨S',_,_,h₁.objs.size,_,_,he₃,(Obj.cls_mapFields _ _).trans h2,hd₃,by simp [(Array.getElem?_eq_some_iff.mp h4).1],hTe,hT₃,rfl,by simp,h6,?_,h7,?_,h8,?_,?_,?_⟩
 ·cases z:c.h₀.get? h₁.objs.size with
  | none=>rfl
  | some o=>exact (Tnew _ _ (S.base _ _ z) rfl).elim
 ·intro hm
  obtain ⟨p,hp,z⟩:=List.mem_map.mp hm
  obtain ⟨o,a,_⟩:=S.cells p hp
  exact Tnew _ _ a z
 ·intro hm
  obtain ⟨p,hp,z⟩:=List.mem_map.mp hm
  exact Tnew _ _ (S.kept p hp) z
 ·have:=(Array.getElem?_eq_some_iff.mp h5).1
  rw [Array.getElem?_setIfInBounds_ne (by decide)]; exact h5
 ·rw [Array.size_setIfInBounds]; exact hz
theorem note_new {x2:Value}{Q:Unit→Shared→Prop} (X:Ow c L e cls .none x2 s) (K:Sk A env fr L) (h:∀ s',Tw c L e cls (rawInt fr) x2 s'→Q () s'):wpAny c.M A (noteFrame (.ref e) env) Q E s:=by
 have X':=X
 obtain ⟨S,oe,vs,h1,h2,h3,h4,_⟩:=X
 unfold noteFrame
 simp only [K.frame]
 refine wpAny_bind (wpAny_field h1 h3 h4 ?_)
 rw [if_neg (by decide)]
 exact note_core X' K h
noncomputable def tw_set_P (v v' x2:Value):Prop:=∀ (X:Tw c L e cls v x2 s) {Q:Unit→Shared→Prop}{T:Addr}{oe oT:Obj}{vs ts:Array Value} (h1:s.heap.get? e=some oe) (h3:oe.data=.fields vs) (h4:vs[1]? = some (.ref T)) (h6:s.heap.get? T=some oT) (h7:oT.data=.fields ts) (h:∀ s',Tw c L e cls v' x2 s'→s'.heap=s.heap.update T (Obj.mapFields (·.setIfInBounds 3 v'))→Q () s'),wpAny c.M A (setField (.ref T) 3 v') Q E s
theorem tw_set {v v' x2:Value}:@tw_set_P c L s A E e cls v v' x2:=by
 revert c L s A E e cls v v' x2
 walk_at "e9"; intro c L s A E e cls v v'
 walk_at "e1"; intro x2
 intro X Q T oe oT vs ts h1 h3 h4 h6 h7 h
 obtain ⟨S,oe',vs',T',oT',ts',k1,k2,k3,k4,k5,k6,k7,k8,k9,k10,k11,k12,k13,k14,k15,k16⟩:=X
 rw [h1] at k1; cases k1
 rw [h3] at k3; cases k3
 rw [h4] at k4; cases k4
 rw [h6] at k6; cases k6
 rw [h7] at k7; cases k7
 refine wpAny_setField h6 h7 (Array.getElem?_eq_some_iff.mp k8).1 (h _ ?_ rfl)
 have hd:=Obj.data_mapFields h7 (·.setIfInBounds 3 v')
 have u1:=Heap.get?_update_self (Obj.mapFields (·.setIfInBounds 3 v')) h6 (Obj.isFreed_of_fields hd)
 have other:∀ b,b≠T→(s.heap.update T (Obj.mapFields (·.setIfInBounds 3 v'))).get? b=s.heap.get? b:=fun b hb=>Heap.get?_update_other _ _ (Ne.symm hb)
 refine ⟨⟨S.ok,fun b o hb=>(other b fun z=>?_).trans (S.base b o hb),fun p hp=>?_,S.apart,S.nodup,S.gens,S.low,?_,fun p hp=>(other _ fun z=>k14 (z ▸ List.mem_map_of_mem hp)).trans (S.kept p hp),S.apK,S.os⟩,oe,vs,T,_,_,(other e (Ne.symm k5)).trans h1,k2,h3,h4,k5,u1,hd,?_,k9,k10,k11,k12,k13,k14,k15,k16⟩
 ·rw [z,k10] at hb; cases hb
 ·obtain ⟨o,a,q⟩:=S.cells p hp
  exact ⟨o,(other _ fun z=>k12 (z ▸ List.mem_map_of_mem hp)).trans a,q⟩
 ·show _≤(s.heap.update T _).objs.size
  rw [(Heap.SameBut.update ..).1]; exact S.size
 ·have:=(Array.getElem?_eq_some_iff.mp k8).1
  simp [this]
noncomputable def set_flight_P (v x2:Value) (o:Option Addr) (Q:Unit→Shared→Prop):Prop:=∀ (X:Tw c L e cls v x2 s) (h:∀ s',Tw c L e cls (o.elim .none fun f=>rawInt f) x2 s'→Q () s'),wpAny c.M A (setFlight (.ref e) o) Q E s
theorem set_flight {v x2:Value}{o:Option Addr}{Q:Unit→Shared→Prop}:@set_flight_P c L s A E e cls v x2 o Q:=by
 revert c L s A E e cls v x2 o Q
 walk_at "e9"; intro c L s A E e cls v x2
 walk_at "e2"; intro o Q
 intro X h
 have X':=X
 obtain ⟨S,oe,vs,T,oT,ts,h1,h2,h3,h4,h5,h6,h7,h8,_⟩:=X
 unfold setFlight
 refine wpAny_bind (wpAny_field h1 h3 h4 ?_)
 rw [if_pos (show (Value.ref T != Value.none)=true from by simp)]
 exact tw_set X' h1 h3 h4 h6 h7 fun s' z _=>h s' z
noncomputable def note_next_P (x2:Value) (Q:Unit→Shared→Prop):Prop:=∀ (X:Tw c L e cls .none x2 s) (K:Sk A env fr L) (h:∀ s',Tw c L e cls (rawInt fr) x2 s'→Q () s'),wpAny c.M A (noteFrame (.ref e) env) Q E s
theorem note_next {x2:Value}{Q:Unit→Shared→Prop}:@note_next_P c L s A E fr e cls env x2 Q:=by
 revert c L s A E fr e cls env x2 Q
 walk_at "e9"; intro c L s A E fr e cls env
 walk_at "e2"; intro x2 Q
 intro X K h
 have X':=X
 obtain ⟨S,oe,vs,T,oT,ts,h1,h2,h3,h4,h5,h6,h7,h8,_⟩:=X
 unfold noteFrame
 simp only [K.frame]
 refine wpAny_bind (wpAny_field h1 h3 h4 ?_)
 rw [if_pos (show (Value.ref T != Value.none)=true from by simp)]
 refine wpAny_bind (wpAny_field h6 h7 h8 ?_)
 rw [if_neg (show ¬ ((Value.none == rawInt fr)=true) from by simp [rawInt])]
 refine wpAny_bind (tw_set (v':=.none) X' h1 h3 h4 h6 h7 fun s' z _=>?_)
 obtain ⟨S',oe',vs',T',oT',ts',k1,k2,k3,k4,k5,k6,k7,k8,k9,k10,k11,k12,k13,k14,k15,k16⟩:=z
 exact note_core (x1:=.ref T') ⟨S',oe',vs',k1,k2,k3,k4,k15,k16,k9,k11,k13⟩ K h
noncomputable def note_held_P (x2:Value) (Q:Unit→Shared→Prop):Prop:=∀ (X:Tw c L e cls (rawInt fr) x2 s) (K:Sk A env fr L) (h:∀ s',Tw c L e cls (rawInt fr) x2 s'→Q () s'),wpAny c.M A (noteFrame (.ref e) env) Q E s
theorem note_held {x2:Value}{Q:Unit→Shared→Prop}:@note_held_P c L s A E fr e cls env x2 Q:=by
 revert c L s A E fr e cls env x2 Q
 walk_at "e9"; intro c L s A E fr e cls env
 walk_at "e2"; intro x2 Q
 intro X K h
 have X':=X
 obtain ⟨S,oe,vs,T,oT,ts,h1,h2,h3,h4,h5,h6,h7,h8,_⟩:=X
 unfold noteFrame
 simp only [K.frame]
 refine wpAny_bind (wpAny_field h1 h3 h4 ?_)
 rw [if_pos (show (Value.ref T != Value.none)=true from by simp)]
 refine wpAny_bind (wpAny_field h6 h7 h8 ?_)
 rw [if_pos (by simp)]
 exact wpAny_pure (h _ X')
inductive Fl (c:Cx) (L:List Cell) (e:Addr) (cls x2:Value) (fr:Addr) (s:Shared):Prop
 | new:Ow c L e cls .none x2 s→Fl c L e cls x2 fr s
 | next:Tw c L e cls .none x2 s→Fl c L e cls x2 fr s
 | held:Tw c L e cls (rawInt fr) x2 s→Fl c L e cls x2 fr s
theorem Fl.note {x2:Value}{Q:Unit→Shared→Prop} (X:Fl c L e cls x2 fr s) (K:Sk A env fr L) (h:∀ s',Tw c L e cls (rawInt fr) x2 s'→Q () s'):wpAny c.M A (noteFrame (.ref e) env) Q E s:=by
 rcases X with X | X | X
 ·exact note_new X K h
 ·exact note_next X K h
 ·exact note_held X K h
theorem Fl.leave {x2:Value}{Q:Unit→Shared→Prop} (X:Fl c L e cls x2 fr s) (K:Sk A env fr L) (h:∀ s',Tw c L e cls .none x2 s'→Q () s'):wpAny c.M A (leaving env (.ref e)) Q E s:=by
 unfold leaving
 exact wpAny_bind (X.note K fun s' X=>set_flight (o:=none) X h)
theorem Fl.hd {x2:Value}{hs:List ExceptHandler}{Q:Flow→Shared→Prop} (X:Fl c L e cls x2 fr s) (K:Sk A env fr L) (h:∀ s',Tw c L e cls .none x2 s'→wpAny c.M A (handleBy (.ref e) env hs) Q E s'):Hd c A env hs Q E (.ref e) s:=by
 unfold Hd
 exact X.note K fun s' X=>set_flight (o:=none) X h
theorem Sk.mark (K:Sk A env fr L) (v):Sk (A.mark v) env fr L:=⟨K.H,K.top,K.frame⟩
noncomputable def Fl.out_P (x2:Value) (v:Option Value):Prop:=∀ (X:Fl c L e cls x2 fr s) (K:Sk A env fr L) (h:∀ s',Tw c L e cls (rawInt fr) x2 s'→E (.ref e) s'),notedBy c.M (A.mark v) env (cameBackBy c.M A env E) (.ref e) s
theorem Fl.out {x2:Value}{v:Option Value}:@Fl.out_P c L s A E fr e cls env x2 v:=by
 revert c L s A E fr e cls env x2 v
 walk_at "e9"; intro c L s A E fr e cls env
 walk_at "e2"; intro x2 v
 intro X K h
 unfold notedBy
 refine X.note (K.mark v) fun s' X=>?_
 unfold cameBackBy
 have X':=X
 obtain ⟨S,oe,vs,T,oT,ts,h1,h2,h3,h4,h5,h6,h7,h8,_⟩:=X
 refine wpAny_bind (wpAny_field h1 h3 h4 ?_)
 rw [if_neg (by simp)]
 rw [K.frame]
 exact set_flight (o:=some fr) X' h
theorem pass_on {α:Type}{v x2:Value}{what:String}{Q:α→Shared→Prop} (X:Tw c L e cls v x2 s) (hf:env.frame=some fr) (h:∀ s',Tw c L e cls (rawInt fr) x2 s'→E (.ref e) s'):wpAny c.M A (PySem.passOn what (.ref e) env) Q E s:=by
 have X':=X
 obtain ⟨S,oe,vs,T,oT,ts,h1,h2,h3,h4,h5,h6,h7,h8,_⟩:=X
 unfold PySem.passOn
 refine wpAny_bind (wpAny_field h1 h3 h4 ?_)
 rw [if_neg (by simp)]
 rw [hf]
 exact wpAny_bind (set_flight (o:=some fr) X' fun s' z=>wpAny_throw (h s' z))
end
end
section
section
variable {f fr e:Addr}{cls:Value}{fd:FuncData}{tbl:List (Nat × NameKind)}{l:List (Nat × Value)}{env:Env}
noncomputable def Thr (c:Cx) (A:Around) (env:Env) (fr tm:Addr) (E:Value→Shared→Prop) (v:Value) (s:Shared):Prop :=
 ∃ (e:Addr) (cls x2:Value) (L:List Cell),v=.ref e∧Fl c L e cls x2 fr s∧Sk A env fr L ∧
  ∀ s1,Tw c L e cls .none x2 s1→∀ tb,codeAny c.M (A.mark (some (.ref e))) (.call (.ref 912) ⟨[.ref tm,cls,.ref e,tb],[]⟩)
   (fun r s2=>r=.ok (.ret .none)∧∃ L2,Tw c L2 e cls .none x2 s2∧∀ s3,Tw c L2 e cls (rawInt fr) x2 s3→E (.ref e) s3) s1
noncomputable def tb_of_P (v x2:Value) (Q:Value→Shared→Prop):Prop:=∀ (X:Tw c L e cls v x2 s) (h:∀ tb,Q tb s),wpAny c.M A (tracebackOf (.ref e)) Q E s
theorem tb_of {v x2:Value}{Q:Value→Shared→Prop}:@tb_of_P c L s A E e cls v x2 Q:=by
 revert c L s A E e cls v x2 Q
 walk_at "e9"; intro c L s A E e cls v x2
 walk_at "e1"; intro Q
 intro X h
 obtain ⟨S,oe,vs,T,oT,ts,h1,h2,h3,h4,h5,h6,h7,h8,_⟩:=X
 unfold tracebackOf
 refine wpAny_bind (wpAny_field h1 h3 h4 ?_)
 dsimp only
 have hz:1<ts.size:=Nat.lt_of_lt_of_le (by decide) (Nat.succ_le_of_lt (Array.getElem?_eq_some_iff.mp h8).1)
 refine wpAny_bind (wpAny_field h6 h7 (x:=ts[1]) (by simp [hz]) ?_)
 by_cases q:(ts[1] == Value.none)=true
 ·rw [if_pos q]; exact wpAny_pure (h _)
 ·rw [if_neg q]; exact wpAny_pure (h _)
theorem ty_of {v x2:Value}{Q:Value→Shared→Prop} (X:Tw c L e cls v x2 s) (h:Q cls s):wpAny c.M A (typeOf (.ref e)) Q E s:=by
 obtain ⟨S,oe,vs,T,oT,ts,h1,h2,_⟩:=X
 simp only [typeOf]
 exact wpAny_bind (wpAny_load h1 (wpAny_pure (h2 ▸ h)))
theorem x_wE {ctx:Expr}{y:Str}{py pos:Pos}{body:List Stmt}{Q:Flow→Shared→Prop}
  (h:wpAny c.M A (eval ctx env) (fun v s=>∃ (tm dt:Addr) (PP:Obj→Prop) (L:List Cell),v=.ref tm∧St c L s∧(tm,InstP 929 dt)∈L∧(dt,PP)∈L ∧
   codeAny c.M A (.call (.ref 905) ⟨[.ref tm],[]⟩) (Ret (fun v s₂=>wpAny c.M A (storeName env y v) (fun _ s₃=>wpAny c.M A (execs body env) (Out c A E tm Q) (Thr c A env fr tm E) s₃) No s₂) E) s) E s) :
  wpAny c.M A (exec (.With [⟨ctx,some (.Name y py)⟩] body pos) env) Q E s:=by
 refine kw_execN (wpAny_mono h (fun v s z=>?_) fun _ _ z=>z)
 obtain ⟨tm,dt,PP,L,rfl,S,hx,hd,z⟩:=z
 have W:=withOk929 c.P
 unfold withOk at W
 simp only [Bool.and_eq_true,decide_eq_true_eq] at W
 obtain ⟨od,I⟩:=S.instP hx hd
 obtain ⟨cd,hcd,ae⟩:=kw_along W.1.1.1
 obtain ⟨cd',hcd',ax⟩:=kw_along W.1.2
 cases hcd.symm.trans hcd'
 have X:=S.K
 have z:=x_code z
 clear S hx hd
 obtain ⟨hh,g,d,tt,os⟩:=s
 have L1:Looks c.M hh (specialOnItsLine (.ref tm) "__enter__") (some (.ref 905),cd.mro):=kw_special X I hcd ae
 have L2:Looks c.M hh (specialOnItsLine (.ref tm) "__exit__") (some (.ref 912),cd.mro):=kw_special X I hcd ax
 have L3:Looks c.M hh (bindSpecial (.ref 905) (.ref tm)) (.ref 905,[.ref tm]):=bind_fn X _ (beq_iff_eq.mp W.1.1.2)
 have L4:Looks c.M hh (bindSpecial (.ref 912) (.ref tm)) (.ref 912,[.ref tm]):=bind_fn X _ (beq_iff_eq.mp W.2)
 have L5:Looks c.M hh (aMethodOfAnotherBuiltinTypeStops (.ref 905) cd.mro) ():=Looks.of_pure rfl
 have L6:Looks c.M hh (aMethodOfAnotherBuiltinTypeStops (.ref 912) cd.mro) ():=Looks.of_pure rfl
 unfold KwIn withItem
 refine wpAny_bind (wpAny_pure ?_)
 refine wpAny_bind (wpAny_standAt ?_)
 simp only [Bool.false_eq_true,if_false]
 kw_lk
 refine wpAny_mono z (fun v s₂ h₂=>?_) fun _ _ z=>z
 kw_lk
 refine wpAny_attempt (kw_held ?_)
 refine wpAny_bind (wpAny_mono (wpAny_assign_Name h₂) (fun _ s₃ h₃=>wpAny_mono h₃ (fun f s₄ h₄=>?_) fun v s₄ h₄=>?_) fun _ _ z=>z.elim)
 ·kw_lk
  refine wpAny_mono (x_code h₄) (fun _ s₅ h₅=>?_) fun _ _ z=>z
  kw_lk
  exact h₅
 ·obtain ⟨e,cls,x2,L,rfl,X,K,hx⟩:=h₄
  dsimp only
  refine wpAny_bind (X.note K fun s1 X=>?_)
  refine wpAny_bind (set_flight (o:=none) X fun s1 X=>?_)
  refine wpAny_bind (wpAny_standAt ?_)
  refine wpAny_holding ?_
  refine wpAny_bind (ty_of X (wpAny_bind (tb_of X fun tb=>?_)))
  refine wpAny_bind ?_
  unfold withItem.marked
  refine wpAny_bind (wpAny_run (codeAny_mono (hx s1 X tb) fun r s2 z=>?_) (by intro z; cases z))
  obtain ⟨rfl,L2,X2,fin⟩:=z
  refine wpAny_pure (wpAny_bind (wpAny_pure (wpAny_bind (wpAny_pure ?_))))
  rw [if_neg (by decide)]
  exact pass_on X2 K.frame fin
noncomputable def x_wE0_P (ctx:Expr) (pos:Pos) (body:List Stmt) (Q:Flow → Shared → Prop):Prop:=∀ (h:wpAny c.M A (eval ctx env) (fun v s => ∃ (tm dt:Addr) (PP:Obj → Prop) (L:List Cell), v=.ref tm ∧ St c L s ∧ (tm, InstP 929 dt) ∈ L ∧ (dt, PP) ∈ L ∧
   codeAny c.M A (.call (.ref 905) ⟨[.ref tm],[]⟩) (Ret (fun _ s₂=>wpAny c.M A (execs body env) (Out c A E tm Q) (Thr c A env fr tm E) s₂) E) s) E s),wpAny c.M A (exec (.With [⟨ctx,none⟩] body pos) env) Q E s
theorem x_wE0 {ctx:Expr}{pos:Pos}{body:List Stmt}{Q:Flow→Shared→Prop}:@x_wE0_P c s A E fr env ctx pos body Q:=by
 revert c s A E fr env ctx pos body Q
 walk_at "e9"; intro c s A E fr env ctx pos body
 walk_at "e1"; intro Q
 intro h
 refine kw_exec0 (wpAny_mono h (fun v s z=>?_) fun _ _ z=>z)
 obtain ⟨tm,dt,PP,L,rfl,S,hx,hd,z⟩:=z
 have W:=withOk929 c.P
 unfold withOk at W
 simp only [Bool.and_eq_true,decide_eq_true_eq] at W
 obtain ⟨od,I⟩:=S.instP hx hd
 obtain ⟨cd,hcd,ae⟩:=kw_along W.1.1.1
 obtain ⟨cd',hcd',ax⟩:=kw_along W.1.2
 cases hcd.symm.trans hcd'
 have X:=S.K
 have z:=x_code z
 clear S hx hd
 obtain ⟨hh,g,d,tt,os⟩:=s
 have L1:Looks c.M hh (specialOnItsLine (.ref tm) "__enter__") (some (.ref 905),cd.mro):=kw_special X I hcd ae
 have L2:Looks c.M hh (specialOnItsLine (.ref tm) "__exit__") (some (.ref 912),cd.mro):=kw_special X I hcd ax
 have L3:Looks c.M hh (bindSpecial (.ref 905) (.ref tm)) (.ref 905,[.ref tm]):=bind_fn X _ (beq_iff_eq.mp W.1.1.2)
 have L4:Looks c.M hh (bindSpecial (.ref 912) (.ref tm)) (.ref 912,[.ref tm]):=bind_fn X _ (beq_iff_eq.mp W.2)
 have L5:Looks c.M hh (aMethodOfAnotherBuiltinTypeStops (.ref 905) cd.mro) ():=Looks.of_pure rfl
 have L6:Looks c.M hh (aMethodOfAnotherBuiltinTypeStops (.ref 912) cd.mro) ():=Looks.of_pure rfl
 unfold KwIn withItem
 refine wpAny_bind (wpAny_pure ?_)
 refine wpAny_bind (wpAny_standAt ?_)
 simp only [Bool.false_eq_true,if_false]
 kw_lk
 refine wpAny_mono z (fun v s₂ h₂=>?_) fun _ _ z=>z
 kw_lk
 refine wpAny_attempt (kw_held ?_)
 show wpAny _ _ (execs body env) _ _ _
 refine wpAny_mono h₂ (fun f s₄ h₄=>?_) fun v s₄ h₄=>?_
 ·kw_lk
  refine wpAny_mono (x_code h₄) (fun _ s₅ h₅=>?_) fun _ _ z=>z
  kw_lk
  exact h₅
 ·obtain ⟨e,cls,x2,L,rfl,X,K,hx⟩:=h₄
  dsimp only
  refine wpAny_bind (X.note K fun s1 X=>?_)
  refine wpAny_bind (set_flight (o:=none) X fun s1 X=>?_)
  refine wpAny_bind (wpAny_standAt ?_)
  refine wpAny_holding ?_
  refine wpAny_bind (ty_of X (wpAny_bind (tb_of X fun tb=>?_)))
  refine wpAny_bind ?_
  unfold withItem.marked
  refine wpAny_bind (wpAny_run (codeAny_mono (hx s1 X tb) fun r s2 z=>?_) (by intro z; cases z))
  obtain ⟨rfl,L2,X2,fin⟩:=z
  refine wpAny_pure (wpAny_bind (wpAny_pure (wpAny_bind (wpAny_pure ?_))))
  rw [if_neg (by decide)]
  exact pass_on X2 K.frame fin
noncomputable def Tw.keep_P (v x2:Value):Prop:=∀ (X:Tw c L e cls v x2 s),∃ k',Mine.St { c with k:=k' } L s∧∀ L' s',Mine.St { c with k:=k' } L' s'→Tw c L' e cls v x2 s'
theorem Tw.keep {v x2:Value}:@Tw.keep_P c L s e cls v x2:=by
 revert c L s e cls v x2
 walk_at "e5"; intro c L s e cls
 walk_at "e2"; intro v x2
 intro X
 obtain ⟨S,oe,vs,T,oT,ts,h1,h2,h3,h4,h5,h6,h7,h8,h9,h10,h11,h12,h13,h14,h15,h16⟩:=X
 refine ⟨(e,oe)::(T,oT)::c.k,⟨⟨S.ok.K,S.ok.g,S.ok.b,S.ok.lim,S.ok.bi,fun p hp=>?_,?_⟩,S.base,S.cells,S.apart,S.nodup,S.gens,S.low,S.size,fun p hp=>?_,fun p hp hm=>?_,S.os⟩,fun L' s' S'=>?_⟩
 ·rcases List.mem_cons.mp hp with rfl | hp
  ·exact h9
  rcases List.mem_cons.mp hp with rfl | hp
  ·exact h10
  ·exact S.ok.kn p hp
 ·show (e::T::c.k.map (·.1)).Nodup
  rw [List.nodup_cons,List.nodup_cons]
  refine ⟨fun hm=>?_,h14,S.ok.kd⟩
  rcases List.mem_cons.mp hm with z | hm
  ·exact h5 z.symm
  ·exact h13 hm
 ·rcases List.mem_cons.mp hp with rfl | hp
  ·exact h1
  rcases List.mem_cons.mp hp with rfl | hp
  ·exact h6
  ·exact S.kept p hp
 ·rcases List.mem_cons.mp hm with z | hm
  ·exact h11 (List.mem_map.mpr ⟨p,hp,z⟩)
  rcases List.mem_cons.mp hm with z | hm
  ·exact h12 (List.mem_map.mpr ⟨p,hp,z⟩)
  ·exact S.apK p hp hm
 ·have ap:∀ p∈L',p.1≠e∧p.1≠T∧p.1 ∉ c.k.map (·.1):=fun p hp=>by
   have:=S'.apK p hp
   refine ⟨fun z=>this (.head _ |> (z ▸ ·)),fun z=>this (z ▸ .tail _ (.head _)),fun z=>this (.tail _ (.tail _ z))⟩
  refine ⟨⟨S.ok,S'.base,S'.cells,S'.apart,S'.nodup,S'.gens,S'.low,S'.size,fun p hp=>S'.kept p (.tail _ (.tail _ hp)),fun p hp=>(ap p hp).2.2,S'.os⟩,oe,vs,T,oT,ts,S'.kept _ (.head _),h2,h3,h4,h5,S'.kept _ (.tail _ (.head _)),h7,h8,h9,h10,fun hm=>?_,fun hm=>?_,h13,h14,h15,h16⟩
  ·obtain ⟨p,hp,z⟩:=List.mem_map.mp hm
   exact (ap p hp).1 z
  ·obtain ⟨p,hp,z⟩:=List.mem_map.mp hm
   exact (ap p hp).2.1 z
theorem exit_tw {tm dt clk:Addr}{n t:Int}{v x2 a b d:Value}{L1 L2:List Cell} (X:Tw c L e cls v x2 s) (h1:Pick (tm,InstP 929 dt) L L1) (h2:Pick (dt,Tmr clk (n+1) t) L1 L2) (hr:A.depth<recursionLimit)
  (h:∀ s',Tw c ((tm,InstP 929 dt)::(dt,Tms clk n t)::L2) e cls v x2 s'→R (.ok (.ret .none)) s') :
  codeAny c.M A (.call (.ref 912) ⟨[.ref tm,a,b,d],[]⟩) R s:=by
 obtain ⟨k',S,back⟩:=X.keep
 exact timer_exit (c:={ c with k:=k' }) (S.pick2 h1 h2) hr fun s' S'=>h s' (back _ _ S')
theorem x_raise {X N I:String}{x:Str}{np cpos pos:Pos}{e₀:Expr}{Q:Flow→Shared→Prop} (hc:ExcClass X N I) (hh:A.handled=none) (ht:backTo cpos (starEach [e₀] env)=trees env [e₀])
  (h:wpAny c.M A (eval (.Name x np) env) (fun g s₁=>g=.type X∧wpAny c.M A (eval e₀ env) (fun _ s₂=>∃ L,St c L s₂∧(∃ p∈L,True)∧∀ e s',Ow c L e (.type X) .none .none s'→E (.ref e) s') E s₁) E s) :
  wpAny c.M A (exec (.Raise (some (.Call (.Name x np) [e₀] [] cpos)) none pos) env) Q E s:=by
 refine Raise_new hh (x_call_name ht (wpAny_mono h (fun g s₁ z=>?_) fun _ _ z=>z))
 obtain ⟨rfl,z⟩:=z
 refine To.type (.cons (wpAny_mono z (fun v s₂ z=>.nil ?_) fun _ _ z=>z))
 obtain ⟨L,S,hL,z⟩:=z
 exact call_exc_raise hc fun h' e hx=>z e _ (Ow.of S hL hx rfl)
noncomputable def Tw.sub_P (v x2:Value):Prop:=∀ (X:Tw c L e cls v x2 s) (S':Mine.St c L' s) (hs:∀ p∈L',∃ q∈L,q.1=p.1),Tw c L' e cls v x2 s
theorem Tw.sub {v x2:Value}:@Tw.sub_P c L L' s e cls v x2:=by
 revert c L L' s e cls v x2
 walk_at "e5"; intro c L L' s e
 walk_at "e2"; intro cls v
 walk_at "e1"; intro x2
 intro X S' hs
 obtain ⟨S,oe,vs,T,oT,ts,h1,h2,h3,h4,h5,h6,h7,h8,h9,h10,h11,h12,h13,h14,h15,h16⟩:=X
 refine ⟨S',oe,vs,T,oT,ts,h1,h2,h3,h4,h5,h6,h7,h8,h9,h10,fun hm=>h11 ?_,fun hm=>h12 ?_,h13,h14,h15,h16⟩
 all_goals
  obtain ⟨p,hp,z⟩:=List.mem_map.mp hm
  obtain ⟨q,hq,z2⟩:=hs p hp
  exact List.mem_map.mpr ⟨q,hq,z2.trans z⟩
theorem Tw.perm {v x2:Value} (X:Tw c L e cls v x2 s) (p:L'.Perm L):Tw c L' e cls v x2 s:=X.sub (X.St.perm p) fun q hq=>⟨q,p.subset hq,rfl⟩
theorem Tw.dropAt {v x2:Value}{p:Cell} (X:Tw c L e cls v x2 s) (h:Pick p L L'):Tw c L' e cls v x2 s:=X.sub (X.St.dropAt h) fun q hq=>⟨q,h.perm.mem_iff.mpr (.tail _ hq),rfl⟩
theorem Rep.addr {a:Addr}{P P':Obj→Prop} (r:Rep a P P' L L'):∀ p∈L',∃ q∈L,q.1=p.1:=by
 induction r with
 | here =>
  intro p hp
  rcases List.mem_cons.mp hp with rfl | hp
  ·exact ⟨_,.head _,rfl⟩
  ·exact ⟨p,.tail _ hp,rfl⟩
 | there _ ih =>
  intro p hp
  rcases List.mem_cons.mp hp with rfl | hp
  ·exact ⟨_,.head _,rfl⟩
  ·obtain ⟨q,hq,z⟩:=ih p hp
   exact ⟨q,.tail _ hq,z⟩
theorem Tw.weak {v x2:Value}{a:Addr}{P P':Obj→Prop} (X:Tw c L e cls v x2 s) (r:Rep a P P' L L') (h:∀ o,P o→P' o):Tw c L' e cls v x2 s:=X.sub (X.St.weak r h) r.addr
theorem Sk.deep (F:Fn f fd tbl) (H:Frs A L) (hm:(fr,Nm l)∈L') (hs:∀ p∈L,p∈L'):Sk (A.deeper (envF f fd fr)) (envF f fd fr) fr L':=⟨Frs.deep F H hm hs,Top.deeper H,rfl⟩
theorem fly_out {x2:Value} (X:Fl c L e cls x2 fr s) (F:Fn f fd tbl) (K:Sk (A.deeper (envF f fd fr)) (envF f fd fr) fr L) (h:∀ s',Tw c L e cls .none x2 s'→R (.error (.ref e)) s'):Fly c A (envF f fd fr) R (.ref e) s:=X.leave K h
end
end
section
section
variable {q:TCfg c}{env:Env}{fr:Addr}
noncomputable def T_put_refuse_P (data:List (Int × Value)) (m key:Int) (mtk kt:Tok) (v:Value):Prop:=∀ (S:St c ((q.ca,InstP 1155 q.cd)::(q.cd,Dm (q.D (.int m mtk)))::(q.dd,DI c data)::L) s) (hr:A.depth<recursionLimit) (H:Frs A L) (hh:A.handled=none) (hroom:q.room<1) (h:∀ e s',Tw c ((q.ca,InstP 1155 q.cd)::(q.cd,Dm (q.D (.int m mtk)))::(q.dd,DI c data)::L) e (.type "ValueError") .none .none s'→R (.error (.ref e)) s'),codeAny c.M A (.call (.ref 770) ⟨[.ref q.ca,.int key kt,v],[]⟩) R s
theorem T_put_refuse {data:List (Int × Value)}{m key:Int}{mtk kt:Tok}{v:Value}:@T_put_refuse_P c L s A R q data m key mtk kt v:=by
 revert c L s A R q data m key mtk kt v
 walk_at "e5"; intro c L s A R
 walk_at "e5"; intro q data m key mtk
 walk_at "e2"; intro kt v
 intro S hr H hh hroom h
 refine f_call fn770 [(1,.ref q.ca),(11,.int key kt),(15,v)] S hr (by rfl) (by kernel_rfl!) (by kernel_rfl!) ?_
 intro fr s S
 have F:=fn770
 walk_at "g"
 rw [decide_eq_true hroom]
 walk_at "g"
 refine x_raise excClass_ValueError hh (by rfl) ?_
 walk_at "g"
 refine ⟨rfl,?_⟩
 walk_at "g"
 rename_i S
 refine ⟨_,S,⟨_,.head _,trivial⟩,fun e s' X=>?_⟩
 refine fly_out (.new X) F (Sk.deep F H (.head _) fun p hp=>.tail _ (.tail _ (.tail _ (.tail _ hp)))) fun s' X=>h e s' ?_
 exact X.dropAt .here
noncomputable def T_setitem_refuse_P (data rows:List (Int × Value)) (m n t t0 m0 t' t0' m0' key:Int) (mtk kt:Tok) (ex:List Dr) (live:List Nd) (v:Value):Prop:=∀ (S:St c ((q.ca, InstP 1155 q.cd) :: (q.cd, Dm (q.D (.int m mtk))) :: (q.dd, DI c data) :: (q.lk, DI c rows) :: (q.tm, InstP 929 q.td) :: (q.td, Tms q.K.clk n t) :: (Ring q.root (ex.map Dr.nd ++ live) ++ (q.K.G t0 m0 ++ L))) s) (hr:A.depth+6<recursionLimit) (H:Frs A L) (hh:A.handled=none) (hn:0≤n) (hm:Mv q.K n t t0 m0 t' t0' m0') (hroom:q.room<1) (hd:Due t' rows data ex) (hz:data.length≤900) (hz2:rows.length≤900) (hz3:ex.length≤900) (hlive:∀ b bs, live=b :: bs → ∃ e etk, b.e=.int e etk ∧ t'<e) (h:∀ tk' e s', Tw c ((q.ca, InstP 1155 q.cd) :: (q.cd, Dm (q.D (.int (m-ex.length) tk'))) :: (q.dd, DI c (outs data ex)) :: (q.lk, DI c (outs rows ex)) :: (q.tm, InstP 929 q.td) :: (q.td, Tms q.K.clk n t') ::
   (Ring q.root live++(q.K.G t0' m0'++L))) e (.type "ValueError") .none .none s'→R (.error (.ref e)) s'),codeAny c.M A (.call (.ref 1100) ⟨[.ref q.ca,.int key kt,v],[]⟩) R s
set_option maxHeartbeats 4000000 in
theorem T_setitem_refuse {data rows:List (Int × Value)}{m n t t0 m0 t' t0' m0' key:Int}{mtk kt:Tok}{ex:List Dr}{live:List Nd}{v:Value}:@T_setitem_refuse_P c L s A R q data rows m n t t0 m0 t' t0' m0' key mtk kt ex live v:=by
 revert c L s A R q data rows m n t t0 m0 t' t0' m0' key mtk kt ex live v
 walk_at "e5"; intro c L s A R
 walk_at "e9"; intro q data rows m n t t0 m0 t'
 walk_at "e5"; intro t0' m0' key mtk kt
 walk_at "e2"; intro ex live
 walk_at "e1"; intro v
 intro S hr H hh hn hm hroom hd hz hz2 hz3 hlive h
 refine f_call fn1100 [(1,.ref q.ca),(11,.int key kt),(15,v),(63,.ref 770)] S (by lia) (by rfl) (by kernel_rfl!) (by kernel_rfl!) ?_
 intro fr s S
 have F:=fn1100
 refine x_cons ?_
 refine x_wE (fr:=fr) ?_
 walk_at "g"
 refine e_timer S (by walk_at "m") (by walk_at "m") (by rw [depth_deeper]; lia) fun s S=>?_
 refine ⟨_,_,_,_,rfl,S,by exact ixm 5 rfl,by exact ixm 6 rfl,?_⟩
 refine timer_enter (St.pick2G S (by walk_at "k") (by walk_at "k") (by walk_at "K")) (by rw [depth_deeper]; lia) hm fun ttk s S=>?_
 walk_at "g"
 refine g_meth ‹_› (by exact ixn 2 1 rfl rfl) (by walk_at "c") (by exact ixn 2 2 rfl rfl) (by walk_at "i") (by rfl) (by rfl) ?_
 refine To.K keep1138 ?_
 walk_at "g"
 refine ⟨⟨_,by assumption⟩,T_expire (q:=q) (St.pick4G ‹_› (by walk_at "k") (by walk_at "k") (by walk_at "k") (by walk_at "k") (by walk_at "K")) (by rw [depth_deeper]; lia) hd (by lia) (by lia) hz3 hlive ?_⟩
 intro x tk' told s e1 S
 have S:=S.drop.dropG
 obtain ⟨tke,S⟩ : ∃ tke,St c ((q.ca,InstP 1155 q.cd)::(q.cd,Dm (q.D (.int (m-ex.length) tk')))::(q.dd,DI c (outs data ex))::(q.lk,DI c (outs rows ex))::(Ring q.root live++((q.tm,InstP 929 q.td)::(q.td,Tmr q.K.clk (n+1) t')::(q.K.G t0' m0'++((fr,Nm [(47,.int (t'+q.last) tke),(35,.int t' ttk),(63,.ref 770),(15,v),(11,.int key kt),(1,.ref q.ca)])::L))))) s:=⟨_,S⟩
 walk_at "g"
 refine To.K keep770 ?_
 walk_at "g"
 refine ⟨⟨_,by assumption⟩,T_put_refuse (q:=q) S (by rw [depth_deeper]; lia) (Frs.deep (l:=[(47,.int (t'+q.last) tke),(35,.int t' ttk),(63,.ref 770),(15,v),(11,.int key kt),(1,.ref q.ca)]) F H (by walk_at "m") fun p hp=>by walk_at "m") hh hroom fun e s X=>?_⟩
 refine ⟨e,_,_,_,rfl,.next X,Sk.deep (l:=[(47,.int (t'+q.last) tke),(35,.int t' ttk),(63,.ref 770),(15,v),(11,.int key kt),(1,.ref q.ca)]) F H (by walk_at "m") fun p hp=>by walk_at "m", fun s1 X tb=>?_⟩
 refine exit_tw X (by walk_at "k") (by walk_at "k") (by show A.depth+1<_; lia) fun s2 X=>⟨rfl,_,X,fun s3 X=>?_⟩
 refine fly_out (.held X) F (Sk.deep (l:=[(47,.int (t'+q.last) tke),(35,.int t' ttk),(63,.ref 770),(15,v),(11,.int key kt),(1,.ref q.ca)]) F H (by walk_at "m") fun p hp=>by walk_at "m") fun s' X=>h tk' e s' ?_
 have X:=X.dropAt (p:=(fr,_)) (by walk_at "k")
 exact X.perm (by exact ixd [2,2,2,2] rfl)
end
end
section
open Builtin Builtin.ObjectAttr Builtin.Getset_descriptor
section
variable {f fr e:Addr}{cls:Value}{fd:FuncData}{tbl:List (Nat × NameKind)}{l:List (Nat × Value)}{env:Env}
noncomputable def ow_set_P (x1 x2 x':Value) (i:Nat) (Q:Unit→Shared→Prop):Prop:=∀ (X:Ow c L e cls x1 x2 s) (hi:i=2∨i=3∨i=4) (h:∀ s',Ow c L e cls x1 (if i=2 then x' else x2) s'→(∀ b,b≠e→s'.heap.get? b=s.heap.get? b)→Q () s'),wpAny c.M A (setField (.ref e) i x') Q E s
theorem ow_set {x1 x2 x':Value}{i:Nat}{Q:Unit→Shared→Prop}:@ow_set_P c L s A E e cls x1 x2 x' i Q:=by
 revert c L s A E e cls x1 x2 x' i Q
 walk_at "e9"; intro c L s A E e cls x1 x2
 walk_at "e2"; intro x' i
 walk_at "e1"; intro Q
 intro X hi h
 obtain ⟨S,oe,vs,h1,h2,h3,h4,h5,hz,h6,h7,h8⟩:=X
 have hlt:i<vs.size:=by lia
 have hd:=Obj.data_mapFields h3 (·.setIfInBounds i x')
 have u1:=Heap.get?_update_self (Obj.mapFields (·.setIfInBounds i x')) h1 (Obj.isFreed_of_fields hd)
 have other:∀ b,b≠e→(s.heap.update e (Obj.mapFields (·.setIfInBounds i x'))).get? b=s.heap.get? b:=fun b hb=>Heap.get?_update_other _ _ (Ne.symm hb)
 refine wpAny_setField h1 h3 hlt (h _ ?_ other)
 refine ⟨⟨S.ok,fun b o hb=>(other b fun z=>?_).trans (S.base b o hb),fun p hp=>?_,S.apart,S.nodup,S.gens,S.low,?_,fun p hp=>(other _ fun z=>h8 (z ▸ List.mem_map_of_mem hp)).trans (S.kept p hp),S.apK,S.os⟩,_,_,u1,(Obj.cls_mapFields _ _).trans h2,hd,?_,?_,?_,h6,h7,h8⟩
 ·rw [z,h6] at hb; cases hb
 ·obtain ⟨o,a,q⟩:=S.cells p hp
  exact ⟨o,(other _ fun z=>h7 (z ▸ List.mem_map_of_mem hp)).trans a,q⟩
 ·show _≤(s.heap.update e _).objs.size
  rw [(Heap.SameBut.update ..).1]; exact S.size
 ·rw [Array.getElem?_setIfInBounds_ne (by lia)]; exact h4
 ·by_cases q:i=2
  ·subst q; rw [if_pos rfl]; simp [hlt]
  ·rw [if_neg q,Array.getElem?_setIfInBounds_ne q]; exact h5
 ·rw [Array.size_setIfInBounds]; exact hz
theorem entry_unchain:entryFor table "proto.unchain" = some Builtin.«proto.unchain»:=entryFor_of_fast (by kernel_rfl)
noncomputable def x_raise_from_P (h0:Addr) (clsh vh:Value) (X N I:String) (x:Str) (n:Nat) (np cpos pos p:Pos) (e₀:Expr) (Q:Flow→Shared→Prop):Prop:=∀ (hc:ExcClass X N I) (hh:A.handled=some (.ref h0)) (ht:backTo cpos (starEach [e₀] env)=trees env [e₀]) (h:wpAny c.M A (eval (.Name x np) env) (fun g s₁=>g=.type X∧wpAny c.M A (eval e₀ env) (fun _ s₂=>∃ L,Tw c L h0 clsh vh .none s₂∧(∃ p∈L,True)∧∀ e s',Ow c L e (.type X) .none (.ref h0) s'→E (.ref e) s') E s₁) E s),wpAny c.M A (exec (.Raise (some (.Call (.Name x np) [e₀] [] cpos)) (some (.Constant .none n p)) pos) env) Q E s
theorem x_raise_from {h0:Addr}{clsh vh:Value}{X N I:String}{x:Str}{n:Nat}{np cpos pos p:Pos}{e₀:Expr}{Q:Flow→Shared→Prop}:@x_raise_from_P c s A E env h0 clsh vh X N I x n np cpos pos p e₀ Q:=by
 revert c s A E env h0 clsh vh X N I x n np cpos pos p e₀ Q
 walk_at "e9"; intro c s A E env h0 clsh vh X
 walk_at "e9"; intro N I x n np cpos pos p e₀
 walk_at "e1"; intro Q
 intro hc hh ht h
 have key:wpAny c.M A (eval (.Call (.Name x np) [e₀] [] cpos) env) (fun v s₁=>∃ e L oh vs,v=.ref e∧Ow c L e (.type X) .none .none s₁∧s₁.heap.get? h0=some oh∧oh.data=.fields vs∧vs[2]? = some .none∧e≠h0∧∀ s',Ow c L e (.type X) .none (.ref h0) s'→E (.ref e) s') E s:=by
  refine x_call_name ht (wpAny_mono h (fun g s₁ z=>?_) fun _ _ z=>z)
  obtain ⟨rfl,z⟩:=z
  refine To.type (.cons (wpAny_mono z (fun v s₂ z=>.nil ?_) fun _ _ z=>z))
  obtain ⟨L,T,hL,z⟩:=z
  obtain ⟨S,oe,vs,TT,oT,ts,h1,h2,h3,h4,h5,h6,h7,h8,h9,h10,h11,h12,h13,h14,h15,h16⟩:=T
  refine call_exc hc fun h' e hx=>?_
  refine ⟨e,L,oe,vs,rfl,Ow.of S hL hx rfl,hx.keeps _ _ h1,h3,h15,fun q=>?_,z e⟩
  have:=hx.new
  rw [q,h1] at this; cases this
 rw [arm_exec_Raise]
 refine wpAny_bind (wpAny_standAt ?_)
 show wpAny _ _ (raiseStmt env (some (do let v ← eval (.Call (.Name x np) [e₀] [] cpos) env; standAt pos; pure v)) (some (do let v ← eval (.Constant .none n p) env; standAt pos; pure v))) _ _ _
 unfold raiseStmt
 dsimp only
 refine wpAny_bind (wpAny_bind (wpAny_mono key (fun v s₁ h₁=>wpAny_bind (wpAny_standAt (wpAny_pure ?_))) fun _ _ x=>x))
 obtain ⟨e,L,oh,vs,rfl,X1,k1,k2,k3,k4,fin⟩:=h₁
 refine wpAny_bind (wpAny_holding (wpAny_bind (wpAny_Constant_none (wpAny_bind (wpAny_standAt (wpAny_pure ?_))))))
 refine wpAny_bind (wpAny_pure ?_)
 have facts:∀ {x1 x2:Value}{s':Shared},Ow c L e (.type X) x1 x2 s'→s'.TypeIs (.ref e) X∧∀ {Q':Bool→Shared→Prop},Q' false s'→wpAny c.M A (isType (.ref e)) Q' E s':=by
  intro x1 x2 s' X1
  obtain ⟨S,oe,vs,h1,h2,h3,_⟩:=X1
  refine ⟨⟨oe,h1,h2⟩,fun {Q'} hq=>?_⟩
  simp only [isType,loadHead]
  refine wpAny_bind (wpAny_loadPart h1 ?_)
  rw [h3]; exact wpAny_pure hq
 refine wpAny_bind (wpAny_holding ?_)
 unfold excFromValue isExcClass
 refine wpAny_bind (wpAny_bind ((facts X1).2 ?_))
 simp only [Bool.false_eq_true,if_false]
 refine wpAny_pure ?_
 simp only [Bool.false_eq_true,if_false]
 refine wpAny_bind (wpAny_isInstance (facts X1).1 hc.base ?_)
 simp only [if_true]
 refine wpAny_pure ?_
 refine wpAny_bind (wpAny_pure ?_)
 refine wpAny_bind (ow_set X1 (.inr (.inl rfl)) fun s2 X2 o2=>?_)
 refine wpAny_bind (ow_set X2 (.inr (.inr rfl)) fun s3 X3 o3=>?_)
 rw [if_neg (by decide),if_neg (by decide)] at X3
 refine wpAny_bind ((facts X3).2 ?_)
 simp only [Bool.false_eq_true,if_false]
 unfold raisedInstance
 refine wpAny_bind (wpAny_bind (wpAny_typeOf (facts X3).1 (wpAny_bind (m:=typeOf (.type X)) (wpAny_pure ?_))))
 rw [if_pos hc.metaType]
 refine wpAny_pure ?_
 have X3':=X3
 obtain ⟨S,oe,ws,h1,h2,h3,h4,_⟩:=X3
 unfold setFlight raiseNew
 refine wpAny_bind (wpAny_bind (wpAny_field h1 h3 h4 ?_))
 rw [if_neg (by decide)]
 refine wpAny_pure (wpAny_bind (wpAny_handled ?_))
 rw [hh]
 dsimp only
 rw [if_pos (by simp; exact fun z=>k4 z.symm)]
 have k1':s3.heap.get? h0=some oh:=(o3 _ (Ne.symm k4)).trans ((o2 _ (Ne.symm k4)).trans k1)
 refine wpAny_bind (wpAny_holding (wpAny_runValue (codeAny_builtin entry_unchain ?_)))
 unfold Builtin.«proto.unchain»
 refine wpAny_bind (wpAny_field k1' k2 k3 ?_)
 rw [if_pos (by rfl)]
 refine wpAny_pure ?_
 show wpAny _ _ (setField (.ref e) 2 (.ref h0) >>= fun _=>throw (.ref e)) _ _ _
 refine wpAny_bind (ow_set X3' (.inl rfl) fun s4 X4 _=>wpAny_throw (fin s4 ?_))
 rw [if_pos rfl] at X4
 exact X4
theorem dga_ref (C:Addr) (tp:Value):descrGetArgs ⟨[.builtin "type.__name__", .ref C,tp],[]⟩=pure (.builtin "type.__name__", some (.ref C),given tp):=by kernel_rfl
structure NameOk (C:Addr) (mc:Value):Prop where
 read:∀ P,readsIn (Mine.K P) C mc=true
 found:∀ P,findCls (Mine.K P) (.ref C) mc "__name__" = some (.get (.builtin "getset_descriptor.__get__") (.builtin "type.__name__") (.ref C) mc)
 obj:∀ P,∃ o n tk,(Mine.K P).lookup C=some o∧(o.slots.toList[2]?).join=some (.str n tk)∧n.length≤100
 inst:∀ P,instIn (Mine.K P) (.ref C) (.type "type")=some true
noncomputable def g_name_P (C:Addr) (mc:Value) (ex:Bool) (Q:Value→Shared→Prop):Prop:=∀ (S:St c L s) (hc:NameOk C mc) (h:∀ n tk s',n.length≤100→St c L s'→Q (.str n tk) s'),wpAny c.M A (getAttr (.ref C) (Str.ofString "__name__") ex) Q E s
theorem g_name {C:Addr}{mc:Value}{ex:Bool}{Q:Value→Shared→Prop}:@g_name_P c L s A E C mc ex Q:=by
 revert c L s A E C mc ex Q
 walk_at "e9"; intro c L s A E C mc ex Q
 intro S hc h
 have h4:=hc.inst c.P
 obtain ⟨o,n,tk,hK,hs,hz⟩:=hc.obj c.P
 refine cls_bind S.K (hc.read _) (hc.found _) (wpAny_call ?_)
 have S':St c L { s with toks:=s.toks+1 }:=S.like rfl rfl
 have L1:=looks_instIn (M:=c.M) S'.K h4
 have hC:=S'.K _ _ hK
 refine codeAny_call_builtin KF.slot_gs.plain KF.entry_gs (KF.slot_gs.check _ _ _ _ _ _ _ _ ktyn_type (KF.args_gs _ _ _) ?_)
 unfold Builtin.«getset_descriptor.__get__» descrGet
 rw [dga_ref]
 refine wpAny_bind (wpAny_pure ?_)
 unfold descrGetter descrCheckInstance descrNameAndClass
 simp only [ktyn_owner]
 refine wpAny_bind (wpAny_bind (wpAny_pure (wpAny_bind (L1.here ?_))))
 rw [if_neg (by decide)]
 refine wpAny_pure (wpAny_pure ⟨Code.quiet_builtin _ (by decide +kernel),codeAny_builtin ktyn_entry ?_⟩)
 unfold Builtin.«type.__name__»
 dsimp only
 unfold keptObject
 dsimp only
 unfold slotAt
 refine wpAny_bind (wpAny_bind (wpAny_loadPart hC (wpAny_pure ?_)))
 rw [← Array.getElem?_toList,hs]
 refine wpAny_pure ?_
 show wpAny _ _ (handedOut _) _ _ _
 rw [handedOut_of rfl]
 exact wpAny_pure (h n tk _ hz S')
theorem name1155:NameOk 1155 (.ref 124):=⟨fun P=>by kernel_rfl!,fun P=>by kernel_rfl!,fun P=>⟨Mine.o1155 P,_,_,by kernel_rfl!,by rfl,by decide +kernel⟩,fun P=>by kernel_rfl!⟩
theorem name1373:NameOk 1373 (.ref 124):=⟨fun P=>by kernel_rfl!,fun P=>by kernel_rfl!,fun P=>⟨Mine.o1373 P,_,_,by kernel_rfl!,by rfl,by decide +kernel⟩,fun P=>by kernel_rfl!⟩
theorem x_type {x C dx:Addr}{PP:Obj→Prop}{Q:Value→Shared→Prop} (S:St c L s) (hx:(x,InstP C dx)∈L) (hd:(dx,PP)∈L) (h:Q (.ref C) s):wpAny c.M A (call (.type "type") [.ref x]) Q E s:=by
 obtain ⟨od,I⟩:=S.instP hx hd
 exact kto_own I h
theorem x_empty_text {n:Str}{t u:Tok}{Q:Value→Shared→Prop} (S:St c L s) (hz:n.length≤100) (h:∀ v s',St c L s'→Q v s'):wpAny c.M A (binaryOp .Mod (.str (Str.ofString "%s is empty") t) (.str n u)) Q E s:=by
 refine KPc.mod_str (by kpc_eq) (Nat.le_trans hz (by decide)) (by kpc_run_s) ?_
 intro t' k
 exact h _ _ (S.like rfl rfl)
end
end
section
section
variable {fr e d I:Addr}{cls:Value}{l:List (Nat × Value)}{env:Env}{kvs:List (Int × Value)}{ep i:Nat}
theorem Ow.ofCell {o:Obj}{x1 x2:Value}{vs:Array Value} (S:Mine.St c ((e,(· = o))::L) s) (h2:o.cls=cls) (h3:o.data=.fields vs) (h4:vs[1]? = some x1) (h5:vs[2]? = some x2) (hz:5≤vs.size):Ow c L e cls x1 x2 s:=by
 obtain ⟨o',h1,rfl⟩:=S.get (.head _)
 refine ⟨S.drop,_,vs,h1,h2,h3,h4,h5,hz,S.apart _ (.head _),?_,S.apK _ (.head _)⟩
 have:=S.nodup
 rw [List.map_cons,List.nodup_cons] at this
 exact this.1
noncomputable def d_next_end_P (Q:Value→Shared→Prop):Prop:=∀ (S:St c ((fr,Nm l)::(I,KI d i kvs.length ep)::(d,DIe c kvs ep)::L) s) (hh:A.handled=none) (hx:kvs[i]? = none) (h:∀ e s',Ow c ((fr,Nm l)::(d,DIe c kvs ep)::L) e (.type "StopIteration") .none .none s'→E (.ref e) s'),wpAny c.M A (call (.builtin "next") [.ref I]) Q E s
theorem d_next_end {Q:Value→Shared→Prop}:@d_next_end_P c L s A E fr d I l kvs ep i Q:=by
 revert c L s A E fr d I l kvs ep i Q
 walk_at "e9"; intro c L s A E fr d I l
 walk_at "e2"; intro kvs ep
 walk_at "e2"; intro i Q
 intro S hh hx h
 obtain ⟨oi,ho,hc,hd⟩:=S.get (.tail _ (.head _))
 obtain ⟨od,hod,qd⟩:=S.get (.tail _ (.tail _ (.head _)))
 have hit:s.heap.IsKeyIter I d i kvs.length ep:=⟨oi,ho,hc,hd⟩
 obtain ⟨es,hcd,hdd,hk,hp,hn⟩:=qd
 refine call_function_entry (by decide +kernel) (by decide +kernel) kdk_entry_next (kdk_args_next _) ?_
 unfold Builtin.«next»
 refine wpAny_bind (m:=someArgs "next" 1 2 _) (wpAny_of_eq (a:=[Value.ref I]) (by first | rfl | kernel_rfl!) ?_)
 dsimp only
 refine wpAny_bind (wpAny_specialOf (name:=Str.ofString "__next__") hit.typeIs PySem.F.slot_dict_keyiterator_next.lookup ?_)
 refine wpAny_ite_split (fun hab=>absurd hab (by decide)) (fun _=>?_)
 refine wpAny_bind ?_
 refine wpAny_callSpecial?_slot (name:=Str.ofString "__next__") hit.typeIs PySem.F.slot_dict_keyiterator_next
  (wpAny_call_entry PySem.F.slot_dict_keyiterator_next hit.typeIs PySem.F.entry_dict_keyiterator_next ?_ (PySem.F.args_dict_keyiterator_next_1 _))
 refine wpAny_bind (wpAny_pure ?_)
 refine wpAny_bind ?_
 refine wpAny_bind ?_
 first | refine wpAny_bind (wpAny_typeNameOfWhole_keyiter hit.typeIs (wpAny_pure ?_)) | refine wpAny_bind (wpAny_typeNameOf_keyiter hit.typeIs (wpAny_pure ?_))
 refine wpAny_bind (wpAny_fieldsOf ho hd ?_)
 have hown:Builtin.Dict_items.ownsTuple "dict_keyiterator" = false:=by decide
 rw [hown,if_neg Bool.false_ne_true]
 show wpAny _ _ (if (Value.ref d == Value.none)=true then _ else _) _ _ s
 rw [if_neg (show ¬ ((Value.ref d == Value.none)=true) from Bool.false_ne_true)]
 refine wpAny_bind (wpAny_pure ?_)
 refine wpAny_bind (wpAny_dictEntries hod hdd ?_)
 have hsz:es.size=kvs.length:=by rw [← hp.length]; simp
 rw [if_neg (by rw [hsz]; simp)]
 refine wpAny_bind (wpAny_pure ?_)
 refine wpAny_bind (wpAny_dictEpoch hod hdd ?_)
 rw [if_neg (by simp)]
 refine wpAny_pure ?_
 have hge:es.size≤i:=by rw [hsz]; simpa using hx
 dsimp only
 rw [if_neg (show ¬ ((i:Int)<0) from by lia),Int.toNat_natCast,Array.getElem?_eq_none hge]
 dsimp only
 refine wpAny_bind ?_
 first | refine wpAny_bind (wpAny_typeNameOfWhole_keyiter hit.typeIs (wpAny_pure ?_)) | refine wpAny_bind (wpAny_typeNameOf_keyiter hit.typeIs (wpAny_pure ?_))
 show wpAny _ _ (setField (.ref I) 0 .none >>= _) _ _ s
 refine wpAny_bind (wpAny_setField ho hd (by simp) ?_)
 show wpAny _ _ (newExc (.type "StopIteration") [] >>= _) _ _ _
 refine wpAny_bind ?_
 simp only [newExc,newTuple]
 have hdi:=Obj.data_mapFields hd (·.setIfInBounds 0 Value.none)
 have S1:St c ((fr,Nm l)::(I,fun _=>True)::(d,DIe c kvs ep)::L) { s with heap:=s.heap.update I (Obj.mapFields (·.setIfInBounds 0 Value.none)) } :=
  S.change (.there .here) (Heap.SameBut.update ..) ⟨_,Heap.get?_update_self _ ho (Obj.isFreed_of_fields hdi),trivial⟩ rfl
 refine wpAny_bind (wpAny_newObj_type ?_ (by size_fits))
 refine wpAny_bind (m:=firstArgMember _ _) (wpAny_of_eq (a:=Value.none) (by first | rfl | (simp only [firstArgMember]; rfl)) ?_)
 refine wpAny_newObj_type ?_ (by size_fits)
 have S2:=S1.push { cls:=.type "tuple", dict:=none,data:=.seq #[] } rfl (P:=fun _=>True) trivial (d:=s.drawn) (t:=s.toks) (os:=s.os)
 simp only [raiseNew]
 refine wpAny_bind (wpAny_handled ?_)
 rw [show A.in1.handled=none from hh]
 refine wpAny_bind (wpAny_pure (wpAny_throw ?_))
 have S3:=S2.push { cls:=.type "StopIteration", dict:=none,data:=.fields (#[.ref (s.heap.update I (Obj.mapFields (·.setIfInBounds 0 Value.none))).objs.size,.none,.none,.none,.bool false,.none]++ownMembersOf (.type "StopIteration") []) } rfl (P:=(· = _)) rfl (d:=s.drawn) (t:=s.toks) (os:=s.os)
 have S4:=S3.dropAt (.there .here)
 have S5:=S4.dropAt (.there (.there .here))
 refine h _ _ (Ow.ofCell (vs:=#[.ref (s.heap.update I (Obj.mapFields (·.setIfInBounds 0 Value.none))).objs.size,.none,.none,.none,.bool false,.none]++ownMembersOf (.type "StopIteration") []) S5 rfl rfl (by rw [Array.getElem?_append_left (by simp)]; rfl) (by rw [Array.getElem?_append_left (by simp)]; rfl) (by simp; lia))
variable {f:Addr}{fd:FuncData}{tbl:List (Nat × NameKind)}
theorem by_kindW {T:String}{n:Str}{k:Nat}{np pos:Pos}{b₀:Stmt}{suite:List Stmt}{rest:List ExceptHandler}{x2:Value}{Q:Flow→Shared→Prop} (X:Tw c L e (.type T) .none x2 s) (F:Fn f fd tbl) (hx:N[k]? = some n) (hd:k≠0) (hk:tbl.lookup k=some .globalImplicit) (hg:btab.lookup k=some (.type T))
  (h1:isSubtype (.type T) (.type "BaseException")=pure true) (h2:isSubtype (.type (Option.elim (Manifest.find? T) "type" fun x=>Manifest.BuiltinType.metatype x)) (.type "tuple")=pure false) (h3:isSubtype (.type T) (.type T)=pure true)
  (h:∀ s',Tw c L e (.type T) .none x2 s'→wpAny c.M (A.mark (some (.ref e))) (execs (b₀::suite) (envF f fd fr)) Q (notedBy c.M (A.mark (some (.ref e))) (envF f fd fr) (cameBackBy c.M A (envF f fd fr) E)) s') :
  wpAny c.M A (handleBy (.ref e) (envF f fd fr) (.ExceptHandler (some (.Name n np)) none (b₀::suite) pos::rest)) Q E s:=by
 have X':=X
 obtain ⟨S,oe,vs,T1,oT,ts,t1,t2,_⟩:=X
 refine wpAny_handleBy_builtin (b:=true) h1 h2 h3 (e_builtin S F hx hd hk hg ⟨rfl,⟨oe,t1,t2⟩,?_⟩)
 rw [if_pos rfl]
 exact set_flight (o:=none) X' h
theorem by_other {T U:String}{n:Str}{k:Nat}{np pos:Pos}{b₀:Stmt}{suite:List Stmt}{rest:List ExceptHandler}{x2:Value}{Q:Flow→Shared→Prop} (X:Tw c L e (.type T) .none x2 s) (F:Fn f fd tbl) (hx:N[k]? = some n) (hd:k≠0) (hk:tbl.lookup k=some .globalImplicit) (hg:btab.lookup k=some (.type U))
  (h1:isSubtype (.type U) (.type "BaseException")=pure true) (h2:isSubtype (.type (Option.elim (Manifest.find? U) "type" fun x=>Manifest.BuiltinType.metatype x)) (.type "tuple")=pure false) (h3:isSubtype (.type T) (.type U)=pure false)
  (h:wpAny c.M A (handleBy (.ref e) (envF f fd fr) rest) Q E s) :
  wpAny c.M A (handleBy (.ref e) (envF f fd fr) (.ExceptHandler (some (.Name n np)) none (b₀::suite) pos::rest)) Q E s:=by
 obtain ⟨S,oe,vs,T1,oT,ts,t1,t2,_⟩:=X
 refine wpAny_handleBy_builtin (b:=false) h1 h2 h3 (e_builtin S F hx hd hk hg ⟨rfl,⟨oe,t1,t2⟩,?_⟩)
 rw [if_neg (by decide)]
 exact h
theorem x_attr {value:Expr}{attr:Str}{pos:Pos}{Q:Value→Shared→Prop} (hb:attributeBase value attr env (eval value env)=eval value env)
  (h:wpAny c.M A (eval value env) (fun o s₁=>wpAny c.M A (getAttr o attr true) Q E s₁) E s):wpAny c.M A (eval (.Attribute value attr pos) env) Q E s:=by
 rw [arm_eval_Attribute,hb]
 exact wpAny_bind (wpAny_mono h (fun o s₁ h₁=>wpAny_bind (wpAny_standAt (wpAny_bind (wpAny_holding (wpAny_mono h₁ (fun r s₂ h₂=>wpAny_bind (wpAny_letTemporaryGo (wpAny_pure h₂))) fun _ _ y=>y))))) fun _ _ y=>y)
end
end
section
section
variable {q:TCfg c}{env:Env}{fr:Addr}
noncomputable def T_popitem_empty_P (data rows:List (Int × Value)) (m n t t0 m0 t' t0' m0':Int) (mtk:Tok) (ex:List Dr) (live:List Nd):Prop:=∀ (S:St c ((q.ca, InstP 1155 q.cd) :: (q.cd, Dm (q.D (.int m mtk))) :: (q.dd, DI c data) :: (q.lk, DI c rows) :: (q.tm, InstP 929 q.td) :: (q.td, Tms q.K.clk n t) :: (Ring q.root (ex.map Dr.nd ++ live) ++ (q.K.G t0 m0 ++ L))) s) (hr:A.depth+3<recursionLimit) (H:Frs A L) (hh:A.handled=none) (hn:0≤n) (hm:Mv q.K n t t0 m0 t' t0' m0') (hd:Due t' rows data ex) (hz:data.length≤900) (hz2:rows.length≤900) (hz3:ex.length≤900) (hlive:∀ b bs, live=b :: bs → ∃ e etk, b.e=.int e etk ∧ t'<e) (hrows:outs rows ex=[]) (h:∀ tk' e x2 s', Tw c ((q.ca, InstP 1155 q.cd) :: (q.cd, Dm (q.D (.int (m-ex.length) tk'))) :: (q.dd, DI c (outs data ex)) :: (q.lk, DI c []) :: (q.tm, InstP 929 q.td) :: (q.td, Tms q.K.clk n t') ::
   (Ring q.root live++(q.K.G t0' m0'++L))) e (.type "KeyError") .none x2 s'→R (.error (.ref e)) s'),codeAny c.M A (.call (.ref 1145) ⟨[.ref q.ca],[]⟩) R s
set_option maxHeartbeats 4000000 in
theorem T_popitem_empty {data rows:List (Int × Value)}{m n t t0 m0 t' t0' m0':Int}{mtk:Tok}{ex:List Dr}{live:List Nd}:@T_popitem_empty_P c L s A R q data rows m n t t0 m0 t' t0' m0' mtk ex live:=by
 revert c L s A R q data rows m n t t0 m0 t' t0' m0' mtk ex live
 walk_at "e5"; intro c L s A R
 walk_at "e9"; intro q data rows m n t t0 m0 t'
 walk_at "e5"; intro t0' m0' mtk ex live
 intro S hr H hh hn hm hd hz hz2 hz3 hlive hrows h
 refine f_call fn1145 [(1,.ref q.ca)] S (by lia) (by rfl) (by kernel_rfl!) (by kernel_rfl!) ?_
 intro fr s S
 have F:=fn1145
 refine x_cons ?_
 refine x_wE (fr:=fr) ?_
 walk_at "g"
 refine e_timer S (by walk_at "m") (by walk_at "m") (by rw [depth_deeper]; lia) fun s S=>?_
 refine ⟨_,_,_,_,rfl,S,by exact ixm 5 rfl,by exact ixm 6 rfl,?_⟩
 refine timer_enter (St.pick2G S (by walk_at "k") (by walk_at "k") (by walk_at "K")) (by rw [depth_deeper]; lia) hm fun ttk s S=>?_
 walk_at "g"
 refine g_meth ‹_› (by exact ixn 2 1 rfl rfl) (by walk_at "c") (by exact ixn 2 2 rfl rfl) (by walk_at "i") (by rfl) (by rfl) ?_
 refine To.K keep1138 ?_
 walk_at "g"
 refine ⟨⟨_,by assumption⟩,T_expire (q:=q) (St.pick4G ‹_› (by walk_at "k") (by walk_at "k") (by walk_at "k") (by walk_at "k") (by walk_at "K")) (by rw [depth_deeper]; lia) hd (by lia) (by lia) hz3 hlive ?_⟩
 intro x tk' told s e1 S
 have S:=S.drop.dropG
 rw [hrows] at S
 have S:St c ((q.ca,InstP 1155 q.cd)::(q.cd,Dm (q.D (.int (m-ex.length) tk')))::(q.dd,DI c (outs data ex))::(q.lk,DI c [])::(Ring q.root live++((q.tm,InstP 929 q.td)::(q.td,Tmr q.K.clk (n+1) t')::(q.K.G t0' m0'++((fr,Nm [(35,.int t' ttk),(1,.ref q.ca)])::L))))) s:=S
 walk_at "g"
 refine d_iter (St.pick2 ‹_› (by walk_at "k") (by walk_at "k")) fun I ep s S=>?_
 walk_at "g"
 refine d_next_end S hh rfl fun e s X=>?_
 have K:∀ {L'},(fr,Nm [(35,.int t' ttk),(1,.ref q.ca)])∈L'→(∀ p∈L,p∈L')→Sk (A.deeper (envF 1145 fd1145 fr)) (envF 1145 fd1145 fr) fr L':=fun hm hs=>Sk.deep F H hm hs
 refine (Fl.new X).hd (K (.head _) fun p hp=>by walk_at "m") fun s X=>?_
 refine by_kindW X F (by walk_at "i") (by decide) (by rfl) (by rfl) (by rw [isSubtype_type]; kernel_rfl) (by rw [isSubtype_type]; kernel_rfl) (by rw [isSubtype_type]; kernel_rfl) fun s X=>?_
 refine x_cons ?_
 refine x_raise_from (clsh:=.type "StopIteration") (vh:=.none) excClass_KeyError rfl (by rfl) ?_
 obtain ⟨k',S,back⟩:=X.keep
 change wpAny (Cx.M { c with k:=k' }) _ _ _ _ _
 walk_at "g"
 refine ⟨rfl,?_⟩
 change wpAny (Cx.M { c with k:=k' }) _ _ _ _ _
 walk_at "g"
 refine x_attr (by rfl) ?_
 walk_at "g"
 refine To.type ?_
 walk_at "g"
 rename_i S
 refine x_type (C:=1155) S (by walk_at "m") (by walk_at "m") ?_
 refine g_name S name1155 fun nm tk s hz S=>?_
 refine x_empty_text S hz fun v s S=>?_
 refine ⟨_,back _ _ S,⟨_,.head _,trivial⟩,fun e' s' X=>?_⟩
 refine (Fl.new X).out (K (.head _) fun p hp=>by walk_at "m") fun s' X=>?_
 refine ⟨e',_,_,_,rfl,.held X,K (.head _) (fun p hp=>by walk_at "m"),fun s1 X tb=>?_⟩
 refine exit_tw X (by walk_at "k") (by walk_at "k") (by show A.depth+1<_; lia) fun s2 X=>⟨rfl,_,X,fun s3 X=>?_⟩
 refine fly_out (.held X) F (K (by walk_at "m") fun p hp=>by walk_at "m") fun s' X=>h tk' e' (.ref e) s' ?_
 have X:=X.dropAt (p:=(fr,_)) (by walk_at "k")
 have X:=X.weak (a:=q.lk) (P':=DI c []) (by walk_at "r") (fun o z=>DIe.di z)
 exact X.perm (by exact ixd [3,3,3,2] rfl)
end
end
section
section
variable {q:TCfg c}{env:Env}{fr:Addr}
set_option maxHeartbeats 2000000 in
theorem T_setdef_refuse {data rows:List (Int × Value)}{m n t t0 m0 key:Int}{mtk kt:Tok}{ex:List Dr}{live:List Nd}{v:Value}
  (S:St c ((q.ca,InstP 1155 q.cd)::(q.cd,Dm (q.D (.int m mtk)))::(q.dd,DI c data)::(q.lk,DI c rows)::(q.tm,InstP 929 q.td)::(q.td,Tmr q.K.clk n t)::(Ring q.root (ex.map Dr.nd++live)++(q.K.G t0 m0++L))) s)
  (hr:A.depth+7<recursionLimit) (hn:0<n) (hroom:q.room<1) (H:Frs A L) (hh:A.handled=none) (hk:Hit rows (ex.map Dr.nd++live) key t false)
  (hd:Due t rows data ex) (hz:data.length≤900) (hz2:rows.length≤900) (hz3:ex.length≤900)
  (hlive:∀ b bs,live=b::bs→∃ e etk,b.e=.int e etk∧t<e)
  (h:∀ tk' e s',Tw c ((q.ca,InstP 1155 q.cd)::(q.cd,Dm (q.D (.int (m-ex.length) tk')))::(q.dd,DI c (outs data ex))::(q.lk,DI c (outs rows ex))::(q.tm,InstP 929 q.td)::(q.td,Tmr q.K.clk n t) ::
   (Ring q.root live++(q.K.G t0 m0++L))) e (.type "ValueError") .none .none s'→R (.error (.ref e)) s') :
  codeAny c.M A (.call (.ref 829) ⟨[.ref q.ca,.int key kt,v],[]⟩) R s:=by
 have n0:n≠0:=by lia
 refine f_call fn829 [(1,.ref q.ca),(11,.int key kt),(26,v)] S (by lia) (by rfl) (by kernel_rfl!) (by kernel_rfl!) ?_
 intro fr s S
 have F:=fn829
 walk_at "g"
 refine i_in S (by walk_at "m") (by walk_at "m") (by walk_at "m") sp_in ?_
 have S1:St c ((q.ca,InstP 1155 q.cd)::(q.cd,Dm (q.D (.int m mtk)))::(q.lk,DI c rows)::(q.tm,InstP 929 q.td)::(q.td,Tmr q.K.clk n t)::(Ring q.root (ex.map Dr.nd++live)++((fr,Nm [(26,v),(11,.int key kt),(1,.ref q.ca)])::(q.dd,DI c data)::(q.K.G t0 m0++L)))) s:=S.perm (by walk_at "d")
 refine T_contains S1 (by rw [depth_deeper]; lia) n0 (Frs.deep (l:=[(26,v),(11,.int key kt),(1,.ref q.ca)]) F H (.head _) fun p hp=>.tail _ (.tail _ (List.mem_append_right _ hp))) hh hk fun s S=>?_
 refine ⟨_,rfl,?_⟩
 walk_at "g"
 refine i_set ‹_› (by exact ixn 5 0 rfl rfl) (by walk_at "m") (by walk_at "m") sp_set ?_
 have S1:St c ((q.ca,InstP 1155 q.cd)::(q.cd,Dm (q.D (.int m mtk)))::(q.dd,DI c data)::(q.lk,DI c rows)::(q.tm,InstP 929 q.td)::(q.td,Tmr q.K.clk n t)::(Ring q.root (ex.map Dr.nd++live)++(q.K.G t0 m0++((fr,Nm [(26,v),(11,.int key kt),(1,.ref q.ca)])::L)))) s:=S.perm (by walk_at "d")
 have S2:=S1.weak (a:=q.td) (P':=Tms q.K.clk n t) (by walk_at "r") fun o z=>Tms.of z
 refine T_setitem_refuse S2 (by rw [depth_deeper]; lia) (Frs.deep (l:=[(26,v),(11,.int key kt),(1,.ref q.ca)]) F H (.head _) fun p hp=>.tail _ hp) hh (by lia) (.inl ⟨n0,rfl,rfl,rfl⟩) hroom hd hz hz2 hz3 hlive fun tk' e s X=>?_
 have X:=X.weak (a:=q.td) (P':=Tmr q.K.clk n t) (by walk_at "r") fun o z=>(Tms.pos n0).mp z
 refine fly_out (.next X) F (Sk.deep (l:=[(26,v),(11,.int key kt),(1,.ref q.ca)]) F H (by walk_at "m") fun p hp=>by walk_at "m") fun s' X=>h tk' e s' ?_
 exact (X.dropAt (p:=(fr,_)) (by walk_at "k")).perm (by exact .refl _)
end
end
section
section
variable {env:Env}{v:Value}{a:Addr}{P:Obj→Prop}
theorem St.ext {h':Heap}{g:Array GenState}{d:Drawn}{t:Nat}{os:OsState} (S:St c ((a,P)::L) s) (hx:Heap.ExtBut a s.heap h') (hf:∃ p∈L,True) (hg:g=s.gens) (hos:autoParam (os=s.os) aR):St c L ⟨h',g,d,t,os⟩:=by
 have ne:∀ p∈L,p.1≠a:=fun p hp=>S.ne hp
 have S':=S.drop
 have cells:∀ p∈L,∃ o,h'.get? p.1=some o∧p.2 o:=fun p hp=>by
  obtain ⟨o,e,q⟩:=S'.cells p hp
  exact ⟨o,hx _ _ (ne p hp) e,q⟩
 refine ⟨S.ok,fun b o e=>hx b o (fun z=>?_) (S.base b o e),cells,S'.apart,S'.nodup,hg.trans S.gens,S'.low,?_,fun p hp=>hx _ _ (fun z=>S.apK _ (.head _) (z ▸ List.mem_map_of_mem hp)) (S.kept p hp),S'.apK,hos.trans S.os⟩
 ·have:=S.apart _ (.head _)
  rw [z] at e; rw [e] at this; cases this
 ·obtain ⟨p,hp,_⟩:=hf
  obtain ⟨o,e,_⟩:=cells p hp
  exact Nat.le_trans (S'.low p hp) (Nat.le_of_lt (Heap.lt_size e))
noncomputable def LI (l:Addr) (i:Nat) (o:Obj):Prop:=o.cls=.type "list_iterator" ∧ o.data=.fields #[.ref l,.int i 0]
theorem St.li {I l:Addr}{i:Nat} (S:St c L s) (h:(I,LI l i)∈L):s.heap.IsListIter I l i:=by
 obtain ⟨o,e,q1,q2⟩:=S.get h
 exact ⟨o,e,q1,q2⟩
noncomputable def Tst (c:Cx) (A:Around) (ifs:List Expr) (cenv:Env) (Q:Bool→Shared→Prop) (E:Value→Shared→Prop) (s:Shared):Prop :=
 wpAny c.M A (forIn ifs true fun c r=>if r=true then do let ok ← PySem.isTrue c cenv (eval c cenv); pure (ForInStep.yield ok) else pure (ForInStep.yield r)) Q E s
theorem Tst.nil {cenv:Env}{Q:Bool→Shared→Prop} (h:Q true s):Tst c A [] cenv Q E s:=wpAny_tests_nil h
theorem Tst.one {cenv:Env}{e:Expr}{Q:Bool→Shared→Prop} (h:wpAny c.M A (PySem.isTrue e cenv (eval e cenv)) Q E s):Tst c A [e] cenv Q E s:=wpAny_tests_one h

noncomputable def listcomp_core_P (elt iter:Expr) (x:Str) (kx:Nat) (px pos:Pos) (ifs:List Expr) (scope:Scope) (cl:List (Str × Addr)) (use:Option (Value → Sem Unit)) (p':Pos) (Q:Value → Shared → Prop):Prop:=∀ (hx0:N[kx]? = some x) (hclos:closureFor scope env=pure cl) (hcell:∀ y ∈ scope.names, y.2 ≠ .cell) (hkind:scope.kind=.function) (hnames:∀ y ∈ scope.names, y.2=.local → scope.names.lookup y.1=some .local) (hx:scope.names.lookup x=some .local) (hs:∀ v, foldedSetIterable iter env v=pure v) (hh:A.handled=none) (h:wpAny c.M A (eval iter env) (fun xv s₁ => ∃ (a:Addr) (items:List Value) (L0:List Cell), xv=.ref a ∧ St c ((a, LiP items) :: L0) s₁ ∧ items.length≤900 ∧ ∃ (J:Nat → List Value → List Cell → Prop), J 0 [] [] ∧ (∀ i ys X, J i ys X → ys.length≤i) ∧
   (∀ i v ys X C I D s' E',items[i]? = some v→J i ys X→St c ((C,Nm [(kx,v)])::(I,LI a (i+1))::(D,LiP ys)::(a,LiP items)::(X++L0)) s' →
    Tst c A ifs (compEnvC scope cl C env) (fun ok s₃=>Br ok (wpAny c.M A (eval elt (compEnvC scope cl C env)) (fun y s₄=>∃ X',J (i+1) (ys++[y]) X'∧St c ((C,Nm [(kx,v)])::(I,LI a (i+1))::(D,LiP ys)::(a,LiP items)::(X'++L0)) s₄) E' s₃)
     (J (i+1) ys X∧St c ((C,Nm [(kx,v)])::(I,LI a (i+1))::(D,LiP ys)::(a,LiP items)::(X++L0)) s₃)) E' s') ∧
   (∀ D ys X C W s',J items.length ys X→St c ((C,Nm W)::(D,LiP ys)::(a,LiP items)::(X++L0)) s'→compPost c.M A E use Q (.ref D) C (.ok .next) s')) E s),wpAny c.M A (comprehension (.ListComp elt [⟨.Name x px,iter,ifs,0⟩] scope pos) scope env p' (newList []) false (eval iter env) use) Q E s
theorem listcomp_core {elt iter:Expr}{x:Str}{kx:Nat}{px pos:Pos}{ifs:List Expr}{scope:Scope}{cl:List (Str × Addr)}{use:Option (Value→Sem Unit)}{p':Pos}{Q:Value→Shared→Prop}:@listcomp_core_P c s A E env elt iter x kx px pos ifs scope cl use p' Q:=by
 revert c s A E env elt iter x kx px pos ifs scope cl use p' Q
 walk_at "e9"; intro c s A E env elt iter x kx
 walk_at "e5"; intro px pos ifs scope cl
 walk_at "e2"; intro use p'
 walk_at "e1"; intro Q
 intro hx0 hclos hcell hkind hnames hx hs hh h
 refine wpAny_comprehension_free (use:=use) rfl hs hclos hkind hnames (wpAny_mono h (fun xv s₁ h₁=>?_) fun _ _ e=>e)
 obtain ⟨a,items,L0,rfl,S,hz,J,j0,jl,turn,fin⟩:=h₁
 have pl:=S.plist (.head _)
 refine wpAny_pyIter_list pl.isList ?_
 have S1:=S.push { cls:=.type "list_iterator", data:=.fields #[.ref a,.int 0 0] } rfl (P:=LI a 0) ⟨rfl,rfl⟩ (d:=s₁.drawn) (t:=s₁.toks) (os:=s₁.os)
 generalize s₁.heap.objs.size=I at S1 ⊢
 refine wpAny_newObj_type ?_
 have S2:=S1.push { cls:=.type "list", dict:=none,data:=.seq ([] : List Value).toArray } rfl (P:=LiP []) ⟨_,rfl⟩ (d:=s₁.drawn) (t:=s₁.toks) (os:=s₁.os)
 dsimp only at S2 ⊢
 generalize (s₁.heap.push { cls:=.type "list_iterator", data:=.fields #[.ref a,.int 0 0] }).objs.size=D at S2 ⊢
 refine wpAny_newFunctionEnv hcell (by intro y hy; simp at hy) (fun h₁ hn hs=>?_) hkind
 have S3:=S2.grow (s':=⟨h₁,s₁.gens,s₁.drawn,s₁.toks+([] : List (Str × Value)).length,s₁.os⟩) hs (nsP_of hn) rfl
 dsimp only at S3 ⊢
 generalize ((s₁.heap.push { cls:=.type "list_iterator", data:=.fields #[.ref a,.int 0 0] }).push { cls:=.type "list", dict:=none,data:=.seq ([] : List Value).toArray }).objs.size=C at S3 ⊢
 have S4:St c ((C,Nm [])::(I,LI a 0)::(D,LiP [])::(a,LiP items)::([]++L0)) _:=(S3.weak (P':=Nm []) .here (fun o q=>⟨_,q,fun _ _ _=>rfl⟩)).perm (L':=(C,Nm [])::(I,LI a 0)::(D,LiP [])::(a,LiP items)::L0) ((List.Perm.swap _ _ _).cons _)
 clear S S1 S2 S3 hn hs
 have loop:∀ s₃:Shared,St c ((C,Nm [])::(I,LI a 0)::(D,LiP [])::(a,LiP items)::([]++L0)) s₃ →
   codeAny c.M A (.compLoop (.ListComp elt [⟨.Name x px,iter,ifs,0⟩] scope pos) 0 (.ref I) (.ref D) (compEnvC scope cl C env)) (compPost c.M A E use Q (.ref D) C) s₃:=by
  intro s₃ S
  refine codeAny_compLoop_tests (fun n s'=>∃ i ys X W,n=items.length+1-i∧i≤items.length∧J i ys X∧(W=[]∨∃ v,W=[(kx,v)])∧St c ((C,Nm W)::(I,LI a i)::(D,LiP ys)::(a,LiP items)::(X++L0)) s') (fun n s' hI=>?_) (items.length+1)
   ⟨0,[],[],[],by simp,Nat.zero_le _,j0,.inl rfl,S⟩
  obtain ⟨i,ys,X,W,rfl,hi,hJ,hW,S⟩:=hI
  have pl:=(S.plist (.tail _ (.tail _ (.tail _ (.head _))))).isList
  have it:=S.li (.tail _ (.head _))
  rcases Nat.lt_or_ge i items.length with hlt | hge
  ·have hx':items[i]? = some items[i]:=List.getElem?_eq_getElem hlt
   refine wpAny_pyNext_list_item it pl (x:=items[i]) (by simp [hx']) fun h' hit hs=>?_
   dsimp only
   obtain ⟨oi,e1,e2,e3⟩:=hit
   have S5:=S.change (s':=⟨h',s'.gens,s'.drawn,s'.toks,s'.os⟩) (P':=LI a (i+1)) (.there .here) hs ⟨oi,e1,e2,e3⟩ rfl
   obtain ⟨oc,g1,m,⟨es,ep,q1,q2,q3⟩,hm⟩:=S5.get (.head _)
   refine wpAny_assign_Name (wpAny_storeName_local (lookup_relabel_local hx) ⟨oc,es,ep,g1,q1,q2,q3⟩ (fun h'' hn hs=>?_) ?_)
   ·have S6:=S5.change (s':=⟨h'',s'.gens,s'.drawn,s'.toks+1,s'.os⟩) (P':=Nm [(kx,items[i])]) .here hs (by
     obtain ⟨o',e',q⟩:=nsP_of hn
     refine ⟨o',e',Nm.set hx0 hm (fun j=>?_) q⟩
     rcases hW with rfl | ⟨w,rfl⟩ <;> by_cases z:j=kx <;> simp [List.lookup,z] <;> (have:(j == kx)=false:=by simpa using z) <;> simp [this]) rfl
    refine wpAny_mono (turn i _ ys X C I D _ _ hx' hJ S6) (fun ok s₄ z=>?_) fun _ _ e=>e
    cases ok with
    | false =>
     rw [if_neg (by decide)]
     obtain ⟨hJ',S7⟩:=z.2 rfl
     exact ⟨items.length+1-(i+1),Nat.sub_lt_sub_left (Nat.lt_succ_of_lt hlt) (Nat.lt_succ_self i),i+1,ys,X,_,rfl,by lia,hJ',.inr ⟨_,rfl⟩,S7⟩
    | true =>
     rw [if_pos rfl]
     refine wpAny_mono (z.1 rfl) (fun y s₅ z=>?_) fun _ _ e=>e
     obtain ⟨X',hJ',S7⟩:=z
     refine l_append S7 (.there (.there .here)) (by have:=jl _ _ _ hJ; lia) fun s₆ S8=>?_
     exact ⟨items.length+1-(i+1),Nat.sub_lt_sub_left (Nat.lt_succ_of_lt hlt) (Nat.lt_succ_self i),i+1,ys++[y],X',_,rfl,by lia,hJ',.inr ⟨_,rfl⟩,S8⟩
   ·simp [compEnvC,relabel,hkind]
  ·have he:i=items.length:=by lia
   subst he
   refine wpAny_pyNext_list_end hh it pl (by simp) fun h' hx'=>?_
   dsimp only
   have S5:=(S.pick (p:=(I,LI a items.length)) (.there .here)).ext (g:=s'.gens) (d:=s'.drawn) (t:=s'.toks) (os:=s'.os) hx' ⟨_,.head _,trivial⟩ rfl
   exact fin D ys X C W _ hJ S5
 exact codeAny_compStart_list (loop _ S4) (wpAny_pyIter_listiter (S4.li (.tail _ (.head _))) (loop _ S4))

noncomputable def x_listcomp_P (elt iter:Expr) (x:Str) (kx:Nat) (px pos:Pos) (ifs:List Expr) (scope:Scope) (cl:List (Str × Addr)) (Q:Value → Shared → Prop):Prop:=∀ (hx0:N[kx]? = some x) (hclos:closureFor scope env=pure cl) (hcell:∀ y ∈ scope.names, y.2 ≠ .cell) (hkind:scope.kind=.function) (hnames:∀ y ∈ scope.names, y.2=.local → scope.names.lookup y.1=some .local) (hx:scope.names.lookup x=some .local) (hs:∀ v, foldedSetIterable iter env v=pure v) (hh:A.handled=none) (h:wpAny c.M A (eval iter env) (fun xv s₁ => ∃ (a:Addr) (items:List Value) (L0:List Cell), xv=.ref a ∧ St c ((a, LiP items) :: L0) s₁ ∧ items.length≤900 ∧ ∃ (J:Nat → List Value → List Cell → Prop), J 0 [] [] ∧ (∀ i ys X, J i ys X → ys.length≤i) ∧
   (∀ i v ys X C I D s' E',items[i]? = some v→J i ys X→St c ((C,Nm [(kx,v)])::(I,LI a (i+1))::(D,LiP ys)::(a,LiP items)::(X++L0)) s' →
    Tst c A ifs (compEnvC scope cl C env) (fun ok s₃=>Br ok (wpAny c.M A (eval elt (compEnvC scope cl C env)) (fun y s₄=>∃ X',J (i+1) (ys++[y]) X'∧St c ((C,Nm [(kx,v)])::(I,LI a (i+1))::(D,LiP ys)::(a,LiP items)::(X'++L0)) s₄) E' s₃)
     (J (i+1) ys X∧St c ((C,Nm [(kx,v)])::(I,LI a (i+1))::(D,LiP ys)::(a,LiP items)::(X++L0)) s₃)) E' s') ∧
   (∀ D ys X s',J items.length ys X→St c ((D,LiP ys)::(a,LiP items)::(X++L0)) s'→Q (.ref D) s')) E s),wpAny c.M A (eval (.ListComp elt [⟨.Name x px,iter,ifs,0⟩] scope pos) env) Q E s
theorem x_listcomp {elt iter:Expr}{x:Str}{kx:Nat}{px pos:Pos}{ifs:List Expr}{scope:Scope}{cl:List (Str × Addr)}{Q:Value→Shared→Prop}:@x_listcomp_P c s A E env elt iter x kx px pos ifs scope cl Q:=by
 revert c s A E env elt iter x kx px pos ifs scope cl Q
 walk_at "e9"; intro c s A E env elt iter x kx
 walk_at "e5"; intro px pos ifs scope cl
 walk_at "e1"; intro Q
 intro hx0 hclos hcell hkind hnames hx hs hh h
 rw [eval_ListComp]
 refine listcomp_core (use:=none) hx0 hclos hcell hkind hnames hx hs hh (wpAny_mono h (fun xv s₁ z=>?_) fun _ _ e=>e)
 obtain ⟨a,items,L0,rfl,S,hz,J,j0,jl,turn,fin⟩:=z
 refine ⟨a,items,L0,rfl,S,hz,J,j0,jl,turn,fun D ys X C W s' hJ S=>?_⟩
 obtain ⟨oc,g1,m,⟨es,ep,q1,q2,q3⟩,hm⟩:=S.get (.head _)
 refine ⟨m,⟨oc,es,ep,g1,q1,q2,q3⟩,fun h'' hs=>?_⟩
 exact fin D ys X _ hJ (S.ext hs.extBut ⟨_,.head _,trivial⟩ rfl)
end
end
section
structure FnC (f:Addr) (fd:FuncData) (tbl:List (Nat × NameKind)):Prop where
 at_:∀ P,fnAt (Mine.K P) f=some fd
 code:∀ P,codeIn (Mine.K P) fd.code fd.qualname=true
 co:fd.scope.isCoroutine=false
 gen:fd.scope.isGenerator=false
 kind:fd.scope.kind=.function
 glob:fd.globals=mainGlobals
 bi:fd.builtins=builtinsNs
 names:fd.scope.names=tbl.map fun p=>(nmv p.1,p.2)
 small:tbl.all (fun p=>decide (p.1<N.length))=true
 clo:fd.closure=[]
noncomputable def CeP (v:Option Value) (o:Obj):Prop:=o.data=.cell v
noncomputable abbrev envC (f:Addr) (fd:FuncData) (fr:Addr):Env:=callEnvC fd fr f
noncomputable def cellsK (n:Nat):List (Nat × NameKind)→List (Nat × Addr)→List (Nat × Addr)
 | [],acc=>acc
 | (k,kind)::r,acc=>if kind == .cell then cellsK (n+1) r ((k,n)::acc) else cellsK n r acc
theorem cellsFrom_K:∀ (tbl:List (Nat × NameKind)) (n:Nat) (acc:List (Nat × Addr)),cellsFrom n (tbl.map fun p=>(nmv p.1,p.2)) (acc.map fun p=>(nmv p.1,p.2))=(cellsK n tbl acc).map fun p=>(nmv p.1,p.2)
 | [],_,_=>rfl
 | (k,kind)::r,n,acc=>by
  unfold cellsK
  rw [List.map_cons]
  unfold cellsFrom
  split
  ·exact cellsFrom_K r (n+1) ((k,n)::acc)
  ·exact cellsFrom_K r n acc
theorem cellsK_small {m:Nat}:∀ (tbl:List (Nat × NameKind)) (n:Nat) (acc:List (Nat × Addr)),tbl.all (fun p=>decide (p.1<m))=true→acc.all (fun p=>decide (p.1<m))=true→(cellsK n tbl acc).all (fun p=>decide (p.1<m))=true
 | [],_,_,_,h=>h
 | (k,kind)::r,n,acc,h1,h2=>by
  rw [List.all_cons,Bool.and_eq_true] at h1
  unfold cellsK
  split
  ·exact cellsK_small r (n+1) _ h1.2 (by rw [List.all_cons,h1.1,h2]; rfl)
  ·exact cellsK_small r n acc h1.2 h2
section
variable {f fr:Addr}{fd:FuncData}{tbl:List (Nat × NameKind)}{l:List (Nat × Value)}{name:Str}{v:Value}{k:Nat}
theorem St.call {m cm:Str→Option Value}{cs:List (Str × Addr)}{s':Shared} (S:St c L s) (x:InCallC s fr m cs cm s') (hl:∀ p∈cs,cs.lookup p.1=some p.2) :
  St c ((fr,NsP m)::((cs.map fun p=>(p.2,CeP (cm p.1)))++L)) s':=by
 obtain ⟨⟨⟨h',tk,rfl⟩,ns,keep,fresh⟩,cell,apart,above⟩:=x
 have low:∀ p∈(fr,NsP m)::(cs.map fun p=>(p.2,CeP (cm p.1))),s.heap.objs.size≤p.1:=fun p hp=>by
  rcases List.mem_cons.mp hp with rfl | hp
  ·exact fresh
  ·obtain ⟨q,hq,rfl⟩:=List.mem_map.mp hp
   exact Nat.le_of_lt (Nat.lt_of_le_of_lt fresh (above q.1 q.2 hq))
 have hsz:s.heap.objs.size≤h'.objs.size:=by
  obtain ⟨o,es,ep,e,_⟩:=ns
  exact Nat.le_of_lt (Nat.lt_of_le_of_lt fresh (Heap.lt_size e))
 have none_:∀ {g:Heap},(∀ b o,g.get? b=some o→s.heap.get? b=some o)→∀ a,s.heap.objs.size≤a→g.get? a=none:=fun hg a ha=>by
  rename_i g
  cases z:g.get? a with
  | none=>rfl
  | some o=>exact absurd (Heap.lt_size (hg _ _ z)) (Nat.not_lt.mpr ha)
 rw [← List.cons_append]
 refine ⟨S.ok,fun b o e=>keep b o (S.base b o e),fun p hp=>?_,fun p hp=>?_,?_,S.gens,fun p hp=>?_,Nat.le_trans S.size hsz,fun p hp=>keep _ _ (S.kept p hp),fun p hp=>?_,S.os⟩
 ·rcases List.mem_append.mp hp with hp | hp
  ·rcases List.mem_cons.mp hp with rfl | hp
   ·exact nsP_of ns
   ·obtain ⟨q,hq,rfl⟩:=List.mem_map.mp hp
    exact cell q.1 q.2 (hl q hq)
  ·obtain ⟨o,e,q⟩:=S.cells p hp
   exact ⟨o,keep _ _ e,q⟩
 ·rcases List.mem_append.mp hp with hp | hp
  ·exact none_ S.base _ (low p hp)
  ·exact S.apart p hp
 ·rw [List.map_append,List.nodup_append]
  refine ⟨?_,S.nodup,fun a ha b hb e=>?_⟩
  ·rw [List.map_cons,List.nodup_cons]
   refine ⟨fun hm=>?_,?_⟩
   ·obtain ⟨p,hp,e⟩:=List.mem_map.mp hm
    obtain ⟨q,hq,rfl⟩:=List.mem_map.mp hp
    exact Nat.ne_of_gt (above q.1 q.2 hq) e
   ·rw [List.map_map]
    unfold List.Nodup
    rw [List.pairwise_map]
    exact apart
  ·subst e
   obtain ⟨p,hp,rfl⟩:=List.mem_map.mp ha
   obtain ⟨q,hq,e⟩:=List.mem_map.mp hb
   exact absurd (S.lt hq) (Nat.not_lt.mpr (e ▸ low p hp))
 ·rcases List.mem_append.mp hp with hp | hp
  ·exact Nat.le_trans S.size (low p hp)
  ·exact S.low p hp
 ·rcases List.mem_append.mp hp with hp | hp
  ·intro hm
   obtain ⟨q,hq,e⟩:=List.mem_map.mp hm
   exact absurd (Heap.lt_size (S.kept q hq)) (Nat.not_lt.mpr (e ▸ low p hp))
  ·exact S.apK p hp
noncomputable def locs (tbl:List (Nat × NameKind)) (b:List (Nat × Value)):List (Nat × Value):=b.filter fun p=>decide (tbl.lookup p.1=some .local)
noncomputable def cels (tbl:List (Nat × NameKind)) (b:List (Nat × Value)):List (Nat × Value):=b.filter fun p=>!decide (tbl.lookup p.1=some .local)
theorem bindL_eq {kindOf:Str→Option NameKind} (hk:∀ k x,N[k]? = some x→kindOf x=tbl.lookup k) {x:Str} (hx:N[k]? = some x):∀ (b:List (Nat × Value)) (m:Str→Option Value),b.all (fun p=>decide (p.1<N.length))=true →
  bindL kindOf (b.map fun p=>(nmv p.1,p.2)) m x=((locs tbl b).reverse.lookup k).or (m x)
 | [],m,_=>rfl
 | (j,w)::b,m,hb=>by
  rw [List.all_cons,Bool.and_eq_true] at hb
  have hj:=nmv_ok (of_decide_eq_true hb.1)
  rw [List.map_cons]
  unfold bindL
  rw [bindL_eq hk hx b _ hb.2,hk _ _ hj]
  unfold locs
  by_cases h:tbl.lookup j=some .local
  ·rw [if_pos h,List.filter_cons_of_pos (by simpa using h),List.reverse_cons]
   by_cases e:x=nmv j
   ·have ek:k=j:=(N_inj hx hj).mp e
    subst ek
    rw [if_pos e]
    have:∀ l:List (Nat × Value),(l++[(k,w)]).lookup k=(l.lookup k).or (some w):=by
     intro l
     induction l with
     | nil=>simp [List.lookup]
     | cons q l ih =>
      simp only [List.cons_append,List.lookup]
      split <;> simp_all
    rw [this,Option.or_assoc]
    simp
   ·have ek:k≠j:=fun z=>e ((N_inj hx hj).mpr z)
    rw [if_neg e]
    have:∀ l:List (Nat × Value),(l++[(j,w)]).lookup k=l.lookup k:=by
     intro l
     induction l with
     | nil =>
      have:(k == j)=false:=by simpa using ek
      simp [List.lookup,this]
     | cons q l ih =>
      simp only [List.cons_append,List.lookup]
      split <;> simp_all
    rw [this]
  ·rw [if_neg h,List.filter_cons_of_neg (by simpa using h)]
theorem bindC_eq {kindOf:Str→Option NameKind} (hk:∀ k x,N[k]? = some x→kindOf x=tbl.lookup k) {x:Str} (hx:N[k]? = some x):∀ (b:List (Nat × Value)) (m:Str→Option Value),b.all (fun p=>decide (p.1<N.length))=true →
  bindC kindOf (b.map fun p=>(nmv p.1,p.2)) m x=((cels tbl b).reverse.lookup k).or (m x)
 | [],m,_=>rfl
 | (j,w)::b,m,hb=>by
  rw [List.all_cons,Bool.and_eq_true] at hb
  have hj:=nmv_ok (of_decide_eq_true hb.1)
  rw [List.map_cons]
  unfold bindC
  rw [bindC_eq hk hx b _ hb.2,hk _ _ hj]
  unfold cels
  by_cases h:tbl.lookup j=some .local
  ·rw [if_pos h,List.filter_cons_of_neg (by simpa using h)]
  ·rw [if_neg h,List.filter_cons_of_pos (by simpa using h),List.reverse_cons]
   by_cases e:x=nmv j
   ·have ek:k=j:=(N_inj hx hj).mp e
    subst ek
    rw [if_pos e]
    have:∀ l:List (Nat × Value),(l++[(k,w)]).lookup k=(l.lookup k).or (some w):=by
     intro l
     induction l with
     | nil=>simp [List.lookup]
     | cons q l ih =>
      simp only [List.cons_append,List.lookup]
      split <;> simp_all
    rw [this,Option.or_assoc]
    simp
   ·have ek:k≠j:=fun z=>e ((N_inj hx hj).mpr z)
    rw [if_neg e]
    have:∀ l:List (Nat × Value),(l++[(j,w)]).lookup k=l.lookup k:=by
     intro l
     induction l with
     | nil =>
      have:(k == j)=false:=by simpa using ek
      simp [List.lookup,this]
     | cons q l ih =>
      simp only [List.cons_append,List.lookup]
      split <;> simp_all
    rw [this]
theorem FnC.kindOf (F:FnC f fd tbl) {x:Str}{k:Nat} (hx:N[k]? = some x):(envC f fd fr).kindOf x=tbl.lookup k:=by
 show fd.scope.names.lookup x=_
 rw [F.names,lookup_names F.small hx]
theorem f_callC {vals:List Value}{body:List Stmt} (F:FnC f fd tbl) (binds:List (Nat × Value)) (S:St c L s) (hroom:A.depth<recursionLimit) (hbody:fd.body=.stmts body)
  (hb:bindArgs fd ⟨vals,[]⟩=pure (binds.map fun p=>(nmv p.1,p.2))) (hsm:binds.all (fun p=>decide (p.1<N.length))=true)
  (hloc:(binds.all fun p=>decide (tbl.lookup p.1=some .local) || (decide (tbl.lookup p.1=some .cell) && ((cellsK 0 tbl []).lookup p.1).isSome))=true)
  (hcs:∀ n,(cellsK n tbl []).all (fun p=>decide ((cellsK n tbl []).lookup p.1=some p.2))=true) (hsome:∀ n k,((cellsK n tbl []).lookup k).isSome=((cellsK 0 tbl []).lookup k).isSome)
  (h:∀ fr s',St c ((fr,Nm (locs tbl binds).reverse)::(((cellsK (fr+1) tbl []).map fun p=>(p.2,CeP ((cels tbl binds).reverse.lookup p.1)))++L)) s' →
   wpAny c.M (A.deeper (envC f fd fr)) (execs body (envC f fd fr)) (Back R) (fun e s'=>wpAny c.M (A.deeper (envC f fd fr)) (leaving (envC f fd fr) e) (fun _ s''=>R (.error e) s'') (fun e' s''=>R (.error e') s'') s') s') :
  codeAny c.M A (.call (.ref f) ⟨vals,[]⟩) R s:=by
 obtain ⟨o,hK,hd⟩:=fnAt_get (F.at_ c.P)
 have hcf:∀ n,cellsFrom n fd.scope.names []=(cellsK n tbl []).map fun p=>(nmv p.1,p.2):=fun n=>by
  rw [F.names]; exact cellsFrom_K tbl n []
 have hcsm:∀ n,(cellsK n tbl []).all (fun p=>decide (p.1<N.length))=true:=fun n=>cellsK_small tbl n [] F.small rfl
 refine codeAny_call_cells hroom (S.K _ _ hK) hd S.lim (codeRec_of S.K (F.code _)) hbody hb F.clo (fun x hx=>?_) (fun s₁ x=>?_) F.co F.gen F.kind
 ·obtain ⟨p,hp,rfl⟩:=List.mem_map.mp hx
  have h1:=List.all_eq_true.mp hloc p hp
  have h2:=nmv_ok (of_decide_eq_true (List.all_eq_true.mp hsm p hp))
  rw [F.names,lookup_names F.small h2]
  rw [Bool.or_eq_true,Bool.and_eq_true,decide_eq_true_eq,decide_eq_true_eq] at h1
  refine h1.imp id fun z=>⟨z.1,?_⟩
  rw [← F.names,hcf,lookup_names (hcsm _) h2,hsome]; exact z.2
 ·refine h _ s₁ ?_
  have S1:=S.call x (by
   show ∀ p∈cellsFrom (s.heap.objs.size+1) fd.scope.names [],(cellsFrom (s.heap.objs.size+1) fd.scope.names []).lookup p.1=some p.2
   rw [hcf]
   intro p hp
   obtain ⟨q,hq,rfl⟩:=List.mem_map.mp hp
   have h1:=of_decide_eq_true (List.all_eq_true.mp (hcs (s.heap.objs.size+1)) q hq)
   have h2:=nmv_ok (of_decide_eq_true (List.all_eq_true.mp (hcsm (s.heap.objs.size+1)) q hq))
   rw [lookup_names (hcsm _) h2]; exact h1)
  have S2:=S1.weak (P':=Nm (locs tbl binds).reverse) .here (fun o q=>⟨_,q,fun k x hx=>by
   rw [bindL_eq (fun k x hx=>F.kindOf hx) hx binds _ hsm]; simp⟩)
  have e1:(callEnvC fd s.heap.objs.size f).cells=(cellsK (s.heap.objs.size+1) tbl []).map fun p=>(nmv p.1,p.2):=hcf _
  rw [e1,List.map_map] at S2
  have e2:(cellsK (s.heap.objs.size+1) tbl []).map ((fun p:Str × Addr=>(p.2,CeP (bindC (callEnvC fd s.heap.objs.size f).kindOf (binds.map fun p=>(nmv p.1,p.2)) (fun _=>none) p.1))) ∘ fun p=>(nmv p.1,p.2)) =
    (cellsK (s.heap.objs.size+1) tbl []).map fun p=>(p.2,CeP ((cels tbl binds).reverse.lookup p.1)):=by
   refine List.map_congr_left fun p hp=>?_
   have h2:=nmv_ok (of_decide_eq_true (List.all_eq_true.mp (hcsm (s.heap.objs.size+1)) p hp))
   show (p.2,CeP _)=_
   rw [bindC_eq (fun k x hx=>F.kindOf hx) h2 binds _ hsm]
   simp
  rw [e2] at S2
  exact S2
theorem e_localC {x:Str}{k:Nat}{pos:Pos}{Q:Value→Shared→Prop} (S:St c L s) (F:FnC f fd tbl) (hm:(fr,Nm l)∈L) (hx:N[k]? = some x) (hd:k≠0) (hk:tbl.lookup k=some .local)
  (hv:l.lookup k=some v) (h:Q v s):wpAny c.M A (eval (.Name x pos) (envC f fd fr)) Q E s:=by
 obtain ⟨o,e,m,h1,h2⟩:=S.get hm
 obtain ⟨es,ep,q1,q2,q3⟩:=h1
 refine wpAny_Name (wpAny_loadName_local F.kind ((F.kindOf hx).trans hk) ⟨o,es,ep,e,q1,q2,q3⟩ ((h2 k x hx).trans hv) h) ?_
 rw [beq_eq_false_iff_ne]
 intro z
 exact hd ((N_inj hx (y := "__debug__") ix0).mp z)
theorem a_localC {x:Str}{k:Nat}{Q:Unit→Shared→Prop} (S:St c L s) (F:FnC f fd tbl) (hm:Rep fr (Nm l) (Nm ((k,v)::l)) L L') (hx:N[k]? = some x) (hk:tbl.lookup k=some .local)
  (h:∀ s',St c L' s'→Q () s'):wpAny c.M A (storeName (envC f fd fr) x v) Q E s:=by
 obtain ⟨o,e,m,h1,h2⟩:=S.get hm.mem
 obtain ⟨es,ep,q1,q2,q3⟩:=h1
 refine wpAny_storeName_local ((F.kindOf hx).trans hk) ⟨o,es,ep,e,q1,q2,q3⟩ (fun h' hn hs=>h _ (S.change hm hs ?_ rfl)) ?_
 ·obtain ⟨o',e',q⟩:=nsP_of hn
  refine ⟨o',e',Nm.set hx h2 (fun j=>?_) q⟩
  by_cases z:j=k
  ·simp [List.lookup,z]
  ·have:(j == k)=false:=by simpa using z
   simp [List.lookup,z,this]
 ·show (fd.scope.kind == .class || (fd.scope.kind == .module && _))=false
  rw [F.kind]; rfl
theorem St.ce {a:Addr}{v:Option Value} (S:St c L s) (h:(a,CeP v)∈L):s.heap.IsCell a v:=by
 obtain ⟨o,e,q⟩:=S.get h
 exact ⟨o,e,q⟩
theorem FnC.cells (F:FnC f fd tbl) {x:Str}{k:Nat}{a:Addr} (hx:N[k]? = some x) (hk:(cellsK (fr+1) tbl []).lookup k=some a):(envC f fd fr).cells.lookup x=some a:=by
 show (cellsFrom (fr+1) fd.scope.names []).lookup x=_
 rw [F.names]
 have:=cellsFrom_K tbl (fr+1) []
 rw [List.map_nil] at this
 rw [this,lookup_names (cellsK_small tbl (fr+1) [] F.small rfl) hx,hk]
theorem e_cellC {x:Str}{k:Nat}{a:Addr}{pos:Pos}{Q:Value→Shared→Prop} (S:St c L s) (F:FnC f fd tbl) (hx:N[k]? = some x) (hd:k≠0) (hk:tbl.lookup k=some .cell) (hc:(cellsK (fr+1) tbl []).lookup k=some a)
  (hm:(a,CeP (some v))∈L) (h:Q v s):wpAny c.M A (eval (.Name x pos) (envC f fd fr)) Q E s:=by
 refine wpAny_Name (wpAny_loadName_cell F.kind ((F.kindOf hx).trans hk) (F.cells hx hc) (S.ce hm) h) ?_
 rw [beq_eq_false_iff_ne]
 intro z
 exact hd ((N_inj hx (y := "__debug__") ix0).mp z)
theorem a_cellC {x:Str}{k:Nat}{a:Addr}{v0:Option Value}{Q:Unit→Shared→Prop} (S:St c L s) (F:FnC f fd tbl) (hx:N[k]? = some x) (hk:tbl.lookup k=some .cell) (hc:(cellsK (fr+1) tbl []).lookup k=some a)
  (hm:Rep a (CeP v0) (CeP (some v)) L L') (h:∀ s',St c L' s'→Q () s'):wpAny c.M A (storeName (envC f fd fr) x v) Q E s:=by
 refine wpAny_storeName_cell F.kind ((F.kindOf hx).trans hk) (F.cells hx hc) (S.ce hm.mem) fun h' hc' hs=>h _ (S.change (s':=⟨h',s.gens,s.drawn,s.toks,s.os⟩) hm hs ?_ rfl)
 obtain ⟨o,e,q⟩:=hc'
 exact ⟨o,e,q⟩
theorem e_globalC {pos:Pos}{Q:Value→Shared→Prop} (S:St c L s) (F:FnC f fd tbl) (hx:N[k]? = some name) (hd:k≠0) (hk:tbl.lookup k=some .globalImplicit) (hg:gtab.lookup k=some v)
  (h:Q v s):wpAny c.M A (eval (.Name name pos) (envC f fd fr)) Q E s:=by
 have H:=tab_get (gtab_ok c.P) hg
 simp only [Bool.and_eq_true,decide_eq_true_eq] at H
 obtain ⟨h1,h2⟩:=H
 refine r_global S F.kind ((F.kindOf hx).trans hk) F.glob (by rw [name_of hx h1]; exact h2) ?_ h
 rw [beq_eq_false_iff_ne]
 intro z
 exact hd ((N_inj hx (y := "__debug__") ix0).mp z)
theorem e_builtinC {pos:Pos}{Q:Value→Shared→Prop} (S:St c L s) (F:FnC f fd tbl) (hx:N[k]? = some name) (hd:k≠0) (hk:tbl.lookup k=some .globalImplicit) (hg:btab.lookup k=some v)
  (h:Q v s):wpAny c.M A (eval (.Name name pos) (envC f fd fr)) Q E s:=by
 have H:=tab_get (btab_ok c.P) hg
 simp only [Bool.and_eq_true,decide_eq_true_eq] at H
 obtain ⟨⟨⟨h1,h2⟩,h3⟩,h4⟩:=H
 refine r_builtin S F.kind ((F.kindOf hx).trans hk) F.glob F.bi (by rw [name_of hx h1]; exact h2) (by rw [name_of hx h1]; exact h3) (by rw [name_of hx h1]; exact h4) ?_ h
 rw [beq_eq_false_iff_ne]
 intro z
 exact hd ((N_inj hx (y := "__debug__") ix0).mp z)
theorem c_local {scope:Scope}{cl:List (Str × Addr)}{C:Addr}{env:Env}{x:Str}{k:Nat}{pos:Pos}{Q:Value→Shared→Prop} (S:St c L s) (hkind:scope.kind=.function) (hl:scope.names.lookup x=some .local) (hm:(C,Nm l)∈L) (hx:N[k]? = some x) (hd:k≠0)
  (hv:l.lookup k=some v) (h:Q v s):wpAny c.M A (eval (.Name x pos) (compEnvC scope cl C env)) Q E s:=by
 obtain ⟨o,e,m,h1,h2⟩:=S.get hm
 obtain ⟨es,ep,q1,q2,q3⟩:=h1
 refine wpAny_Name (wpAny_loadName_local hkind (lookup_relabel_local hl) ⟨o,es,ep,e,q1,q2,q3⟩ ((h2 k x hx).trans hv) h) ?_
 rw [beq_eq_false_iff_ne]
 intro z
 exact hd ((N_inj hx (y := "__debug__") ix0).mp z)
theorem c_cell {scope:Scope}{cl:List (Str × Addr)}{C a:Addr}{env:Env}{x:Str}{k:Nat}{pos:Pos}{Q:Value→Shared→Prop} (S:St c L s) (hkind:scope.kind=.function) (hl:(compEnvC scope cl C env).kindOf x=some .cell) (hc:cl.lookup x=some a) (hm:(a,CeP (some v))∈L) (hx:N[k]? = some x) (hd:k≠0)
  (h:Q v s):wpAny c.M A (eval (.Name x pos) (compEnvC scope cl C env)) Q E s:=by
 refine wpAny_Name (wpAny_loadName_cell hkind hl hc (S.ce hm) h) ?_
 rw [beq_eq_false_iff_ne]
 intro z
 exact hd ((N_inj hx (y := "__debug__") ix0).mp z)
theorem t_item {a:Addr}{its:List Value}{i:Nat}{t:Tok}{value slice:Expr}{Q:Value→Shared→Prop} (S:St c L s) (hm:(a,TuP its)∈L) (hi:its[i]? = some v) (hz:its.length≤1000) (h:Q v s)
  (hs:autoParam (subscripted slice false (.ref a) (.int i t)=operate [.ref a,.int i t] (getItem (.ref a) (.int i t))) aW) :
  wpAny c.M A (subscriptTail value slice (.ref a) (.int i t)) Q E s:=by
 obtain ⟨o,e,rfl⟩:=S.get hm
 have hlt:i<its.length:=(List.getElem?_eq_some_iff.mp hi).1
 refine kba_turn (value':=.Name "" ⟨0,0,0,0⟩) (fun _=>rfl) (item_tuple (items:=its.toArray) (j:=i) ⟨_,e,rfl,_,rfl⟩ (by lia) (by lia) ?_ (by simpa using hi) h hs fun _=>rfl)
 unfold seqIndex?
 rw [List.size_toArray]
 have hn:=Int.not_lt.mpr (Int.natCast_nonneg i)
 simp [hn,hlt]
end
end
set_option hygiene false in
local macro_rules | `(tactic| walk_at "nm")=>`(tactic| first
 | refine e_local ‹_› ‹_› (by walk_at "m") (by walk_at "i") (by decide) (by rfl) (by rfl) ?_
 | refine e_global ‹_› ‹_› (by walk_at "i") (by decide) (by rfl) (by rfl) ?_
 | refine e_builtin ‹_› ‹_› (by walk_at "i") (by decide) (by rfl) (by rfl) ?_
 | refine e_localC ‹_› ‹_› (by walk_at "m") (by walk_at "i") (by decide) (by rfl) (by rfl) ?_
 | refine e_globalC ‹_› ‹_› (by walk_at "i") (by decide) (by rfl) (by rfl) ?_
 | refine e_builtinC ‹_› ‹_› (by walk_at "i") (by decide) (by rfl) (by rfl) ?_
 | refine e_cellC ‹_› ‹_› (by walk_at "i") (by decide) (by rfl) (by rfl) (by walk_at "m") ?_
 | refine c_local ‹_› (by rfl) (by rfl) (by walk_at "m") (by walk_at "i") (by decide) (by rfl) ?_
 | refine c_cell ‹_› (by rfl) (by rfl) (by rfl) (by walk_at "m") (by walk_at "i") (by decide) ?_)
set_option hygiene false in
local macro_rules | `(tactic| walk_at "go")=>`(tactic| first
 | ((with_reducible show wpAny _ _ (eval (Expr.Name _ _) _) _ _ _); walk_at "nm")
 | ((with_reducible show wpAny _ _ (storeName (envC _ _ _) _ _) _ _ _); refine a_localC ‹_› ‹_› (by walk_at "r") (by walk_at "i") (by rfl) ?_; intro _ _)
 | ((with_reducible show wpAny _ _ (storeName (envC _ _ _) _ _) _ _ _); refine a_cellC ‹_› ‹_› (by walk_at "i") (by rfl) (by rfl) (by walk_at "r") ?_; intro _ _)
 | with_reducible refine Tst.nil ?_
 | with_reducible refine Tst.one ?_)
section
theorem fn1380:FnC 1380 Mine.fd1380 tb1380:=⟨fun P=>by kernel_rfl!,fun P=>by kernel_rfl!,rfl,rfl,rfl,rfl,rfl,by kernel_rfl!,by kernel_rfl!,rfl⟩
theorem fn1385:FnC 1385 Mine.fd1385 tb1385:=⟨fun P=>by kernel_rfl!,fun P=>by kernel_rfl!,rfl,rfl,rfl,rfl,rfl,by kernel_rfl!,by kernel_rfl!,rfl⟩
set_option genInjectivity false in
structure Rw where
 a:Addr
 k:Int
 kt:Tok
 v:Int
 vt:Tok
 e:Int
 et:Tok
noncomputable def Rw.tup (r:Rw):List Value:=[.int r.k r.kt,.int r.v r.vt,.int r.e r.et]
noncomputable def refs (rs:List Rw):List Value:=rs.map fun r=>.ref r.a
theorem take_filter (p:Rw→Bool) {rs:List Rw}{i:Nat}{r:Rw} (h:rs[i]? = some r):refs ((rs.take (i+1)).filter p)=refs ((rs.take i).filter p)++(if p r then [.ref r.a] else []):=by
 rw [take_succ_filter p rs i r h]
 unfold refs
 rw [List.map_append]
 cases p r <;> simp
section
variable {env:Env}{fr:Addr}
theorem refs_get {rs:List Rw}{i:Nat}{v:Value} (h:(refs rs)[i]? = some v):∃ r,rs[i]? = some r∧v=.ref r.a∧r∈rs:=by
 unfold refs at h
 rw [List.getElem?_map] at h
 cases e:rs[i]? with
 | none=>rw [e] at h; cases h
 | some r=>rw [e] at h; cases h; exact ⟨r,rfl,rfl,List.mem_of_getElem? e⟩
noncomputable def x_rowfilter_P (iter test:Expr) (px pe pos:Pos) (scope:Scope) (cl:List (Str × Addr)) (a:Addr) (rs:List Rw) (L0:List Cell) (Q:Value → Shared → Prop):Prop:=∀ (p:Rw → Bool) (hclos:closureFor scope env=pure cl) (hcell:∀ y ∈ scope.names, y.2 ≠ .cell) (hkind:scope.kind=.function) (hnames:∀ y ∈ scope.names, y.2=.local → scope.names.lookup y.1=some .local) (hx:scope.names.lookup (Str.ofString "row")=some .local) (hs:∀ v, foldedSetIterable iter env v=pure v) (hh:A.handled=none) (hz:rs.length≤900) (hm:∀ r ∈ rs, (r.a, TuP r.tup) ∈ L0) (hi:wpAny c.M A (eval iter env) (fun xv s₁ => xv=.ref a ∧ St c ((a, LiP (refs rs)) :: L0) s₁) E s) (ht:∀ r ∈ rs, ∀ C I D ys i s' E' Q', St c ((C, Nm [(90, .ref r.a)]) :: (I, LI a i) :: (D, LiP ys) :: (a, LiP (refs rs)) :: L0) s' → (∀ s'', St c ((C, Nm [(90, .ref r.a)]) :: (I, LI a i) :: (D, LiP ys) :: (a, LiP (refs rs)) :: L0) s'' → Q' (p r) s'') →
   wpAny c.M A (PySem.isTrue test (compEnvC scope cl C env) (eval test (compEnvC scope cl C env))) Q' E' s') (fin:∀ D s',St c ((D,LiP (refs (rs.filter p)))::(a,LiP (refs rs))::L0) s'→Q (.ref D) s'),wpAny c.M A (eval (.ListComp (.Name (Str.ofString "row") pe) [⟨.Name (Str.ofString "row") px,iter,[test],0⟩] scope pos) env) Q E s
theorem x_rowfilter {iter test:Expr}{px pe pos:Pos}{scope:Scope}{cl:List (Str × Addr)}{a:Addr}{rs:List Rw}{L0:List Cell}{Q:Value→Shared→Prop}:@x_rowfilter_P c s A E env iter test px pe pos scope cl a rs L0 Q:=by
 revert c s A E env iter test px pe pos scope cl a rs L0 Q
 walk_at "e9"; intro c s A E env iter test px pe
 walk_at "e5"; intro pos scope cl a rs
 walk_at "e2"; intro L0 Q
 intro p hclos hcell hkind hnames hx hs hh hz hm hi ht fin
 refine x_listcomp (kx:=90) ix90 hclos hcell hkind hnames hx hs hh (wpAny_mono hi (fun xv s₁ z=>?_) fun _ _ z=>z)
 obtain ⟨rfl,S⟩:=z
 refine ⟨a,refs rs,L0,rfl,S,by unfold refs; rw [List.length_map]; exact hz,fun i ys X=>X=[]∧ys=refs ((rs.take i).filter p),⟨rfl,rfl⟩,?_,?_,?_⟩
 ·rintro i ys X ⟨_,rfl⟩
  unfold refs
  rw [List.length_map]
  exact Nat.le_trans (List.length_filter_le _ _) (List.length_take_le _ _)
 ·rintro i v ys X C I D s' E' hv ⟨rfl,rfl⟩ S
  obtain ⟨r,h1,rfl,h2⟩:=refs_get hv
  refine Tst.one (ht r h2 C I D _ _ s' _ _ S fun s'' S=>?_)
  have tf:=take_filter p h1
  constructor
  ·intro hp
   rw [hp,if_pos rfl] at tf
   refine c_local S hkind hx (.head _) ix90 (by decide) rfl ⟨[],⟨rfl,tf.symm⟩,S⟩
  ·intro hp
   rw [hp,if_neg (by decide),List.append_nil] at tf
   exact ⟨⟨rfl,tf.symm⟩,S⟩
 ·rintro D ys X s' ⟨rfl,rfl⟩ S
  refine fin D s' ?_
  have e:(rs.take (refs rs).length).filter p=rs.filter p:=by unfold refs; rw [List.length_map,List.take_length]
  rw [e] at S
  exact S
theorem law_row {rs:List Rw}{a:Addr}{key:Int}{kt:Tok}
  (S:St c ((a,LiP (refs rs))::L) s) (hr:A.depth<recursionLimit) (hh:A.handled=none) (hz:rs.length≤900) (hm:∀ r∈rs,(r.a,TuP r.tup)∈L)
  (h:∀ D s',St c ((D,LiP (refs (rs.filter fun r=>decide (r.k=key))))::(a,LiP (refs rs))::L) s'→R (.ok (.ret (.ref D))) s') :
  codeAny c.M A (.call (.ref 1380) ⟨[.ref a,.int key kt],[]⟩) R s:=by
 refine f_callC fn1380 [(89,.ref a),(11,.int key kt)] S hr (by rfl) (by kernel_rfl!) (by kernel_rfl!) (by kernel_rfl!) (fun n=>by simp [tb1380,cellsK]) (fun n k=>by simp [tb1380,cellsK,List.lookup]; split <;> rfl) ?_
 intro fr s S
 have F:=fn1380
 have S:St c ((fr,Nm [(89,.ref a)])::(fr+1,CeP (some (.int key kt)))::(a,LiP (refs rs))::L) s:=S
 walk_at "g"
 refine x_rowfilter (a:=a) (rs:=rs) (L0:=(fr,Nm [(89,.ref a)])::(fr+1,CeP (some (.int key kt)))::L) (fun r=>decide (r.k=key)) (cl:=[(Str.ofString "key", fr+1)]) (by rfl) (by decide) (by rfl) (by decide) (by rfl) (fun _=>rfl) hh hz (fun r hr=>.tail _ (.tail _ (hm r hr))) ?_ ?_ ?_
 ·walk_at "g"
  exact ⟨rfl,S.perm (by exact ixd [2] rfl)⟩
 ·intro r hr C I D ys i s E' Q' S hQ
  have hm':=hm r hr
  walk_at "g"
  rename_i S
  refine t_item S (its:=r.tup) (v:=.int r.k r.kt) (by walk_at "m") rfl (Nat.le_of_ble_eq_true (by rfl)) ?_
  walk_at "g"
  exact hQ _ ‹_›
 ·intro D s S
  walk_at "g"
  refine h D _ ?_
  have S:=S.dropAt (p:=(fr,_)) (by walk_at "k")
  have S:=S.dropAt (p:=(fr+1,_)) (by walk_at "k")
  exact S.perm (by exact .refl _)
end
end
section
section
variable {env:Env}{v:Value}{a b:Addr}{xs ys:List Value}
theorem l_len {Q:Value→Shared→Prop} (S:St c L s) (h1:(a,LiP xs)∈L) (hz:xs.length≤1000) (h:∀ tk s',St c L s'→Q (.int xs.length tk) s'):wpAny c.M A (call (.builtin "len") [.ref a]) Q E s:=by
 refine call_len_list (items:=xs.toArray) (S.plist h1).isList (by rw [List.size_toArray]; lia) ?_
 rw [List.size_toArray]
 exact h _ _ (S.like rfl rfl)
theorem l_add {Q:Value→Shared→Prop} (S:St c L s) (h1:(a,LiP xs)∈L) (h2:(b,LiP ys)∈L) (hz:xs.length+ys.length≤1000) (h:∀ d s',St c ((d,LiP (xs++ys))::L) s'→Q (.ref d) s'):wpAny c.M A (binaryOp .Add (.ref a) (.ref b)) Q E s:=by
 obtain ⟨n1,e1⟩:=S.plist h1
 obtain ⟨n2,e2⟩:=S.plist h2
 refine P.add_list (n:=n1) (n2:=n2) e1 e2 (h _ _ ?_) (by rw [List.size_toArray,List.size_toArray,sizeLine_eq]; lia)
 have e:xs.toArray++ys.toArray=(xs++ys).toArray:=by simp
 rw [e]
 exact S.push { cls:=.type "list", data:=.seq (xs++ys).toArray } rfl ⟨_,rfl⟩
theorem x_tail {nm:Str}{n:Nat}{np p1 p2:Pos}{Q:Value→Shared→Prop} (S:St c L s) (h1:(a,LiP xs)∈L) (hz:xs.length≤1000)
  (h:∀ d s',St c ((d,LiP (xs.drop 1))::L) s'→Q (.ref d) s') :
  wpAny c.M A (eval (.Slice (some (.Constant (.int 1) n p1)) none none p2) env) (fun i s₂=>wpAny c.M A (subscriptTail (.Name nm np) (.Slice (some (.Constant (.int 1) n p1)) none none p2) (.ref a) i) Q E s₂) E s:=by
 refine wpAny_Slice ?_
 rw [evalPart_some]
 refine x_int S fun tk s2 S=>?_
 refine wpAny_pure (wpAny_pure ?_)
 have S3:=S.push { cls:=.type "slice", data:=.fields #[.int 1 tk,.none,.none] } rfl (P:=fun _=>True) trivial (d:=s2.drawn) (t:=s2.toks) (os:=s2.os)
 have pl:=(S3.plist (.tail _ h1)).isList
 refine subscriptTail_ops (ops:=[.ref s2.heap.objs.size,.ref a]) pl.typeIs list_getitem_lookup (wpAny_getItem_list_slice pl (Heap.IsSliceOf.new ..) (.int 1 tk) .none .none (by simp) (h _ _ ?_) (by rw [List.size_toArray,sizeLine_eq]; lia)) rfl (fun _=>rfl)
 have e:=slicePick_from' xs.toArray 1
 rw [show ((1:Nat):Int)=1 from rfl] at e
 rw [e]
 have S4:=S3.push { cls:=.type "list", data:=.seq (xs.drop 1).toArray } rfl (P:=LiP (xs.drop 1)) ⟨_,rfl⟩ (d:=s2.drawn) (t:=s2.toks) (os:=s2.os)
 exact S4.dropAt (.there .here)
end
end
section
section
variable {env:Env}{fr:Addr}
theorem law_without {rs:List Rw}{a:Addr}{key:Int}{kt:Tok}
  (S:St c ((a,LiP (refs rs))::L) s) (hr:A.depth<recursionLimit) (hh:A.handled=none) (hz:rs.length≤900) (hm:∀ r∈rs,(r.a,TuP r.tup)∈L)
  (h:∀ D s',St c ((D,LiP (refs (rs.filter fun r=>r.k != key)))::(a,LiP (refs rs))::L) s'→R (.ok (.ret (.ref D))) s') :
  codeAny c.M A (.call (.ref 1385) ⟨[.ref a,.int key kt],[]⟩) R s:=by
 refine f_callC fn1385 [(89,.ref a),(11,.int key kt)] S hr (by rfl) (by kernel_rfl!) (by kernel_rfl!) (by kernel_rfl!) (fun n=>by simp [tb1385,cellsK]) (fun n k=>by simp [tb1385,cellsK,List.lookup]; split <;> rfl) ?_
 intro fr s S
 have F:=fn1385
 have S:St c ((fr,Nm [(89,.ref a)])::(fr+1,CeP (some (.int key kt)))::(a,LiP (refs rs))::L) s:=S
 walk_at "g"
 refine x_rowfilter (a:=a) (rs:=rs) (L0:=(fr,Nm [(89,.ref a)])::(fr+1,CeP (some (.int key kt)))::L) (fun r=>r.k != key) (cl:=[(Str.ofString "key", fr+1)]) (by rfl) (by decide) (by rfl) (by decide) (by rfl) (fun _=>rfl) hh hz (fun r hr=>.tail _ (.tail _ (hm r hr))) ?_ ?_ ?_
 ·walk_at "g"
  exact ⟨rfl,S.perm (by exact ixd [2] rfl)⟩
 ·intro r hr C I D ys i s E' Q' S hQ
  have hm':=hm r hr
  walk_at "g"
  rename_i S
  refine t_item S (its:=r.tup) (v:=.int r.k r.kt) (by walk_at "m") rfl (Nat.le_of_ble_eq_true (by rfl)) ?_
  walk_at "g"
  refine PyProof.Rows.ne_int ?_
  walk_at "g"
  exact hQ _ ‹_›
 ·intro D s S
  walk_at "g"
  refine h D _ ?_
  have S:=S.dropAt (p:=(fr,_)) (by walk_at "k")
  have S:=S.dropAt (p:=(fr+1,_)) (by walk_at "k")
  exact S.perm (by exact .refl _)

theorem keep1380 (P:Params):keepIn (Mine.K P) (.ref 1380)=true:=by kernel_rfl!
theorem keep1385 (P:Params):keepIn (Mine.K P) (.ref 1385)=true:=by kernel_rfl!
noncomputable def wo (key:Int) (rs:List Rw):List Rw:=rs.filter fun r=>r.k != key
theorem wo_len (key:Int) (rs:List Rw):(wo key rs).length≤rs.length:=List.length_filter_le _ _
noncomputable def trim (room key:Int):List Rw→List Rw
 | []=>[]
 | r::rs=>if room<((wo key (r::rs)).length:Int)+1 then trim room key rs else r::rs
noncomputable def law_put_P (rs:List Rw) (a:Addr) (room key val now last:Int) (rt kt vt nt lt:Tok):Prop:=∀ (S:St c ((a, LiP (refs rs)) :: L) s) (hr:A.depth+1<recursionLimit) (hh:A.handled=none) (hz:rs.length≤800) (hm:∀ r ∈ rs, (r.a, TuP r.tup) ∈ L) (h0:last=0 → ∀ x b D s', St c ((x, TuP [.ref b, .ref D]) :: (b, LiP []) :: (D, LiP (refs (wo key rs))) :: (a, LiP (refs rs)) :: L) s' → R (.ok (.ret (.ref x))) s') (h1:last ≠ 0 → room<1 → ∀ x b tk s', St c ((x, TuP [.ref b, .ref a]) :: (b, LiP [.str (Str.ofString "refused") tk]) :: (a, LiP (refs rs)) :: L) s' → R (.ok (.ret (.ref x))) s') (h2:last ≠ 0 → 1≤room → ∀ x b D n et s', St c ((x, TuP [.ref b, .ref D]) :: (b, LiP []) :: (D, LiP (refs (wo key (trim room key rs) ++ [⟨n, key, kt, val, vt, now+last, et⟩]))) ::
   (n,TuP [.int key kt,.int val vt,.int (now+last) et])::L) s'→R (.ok (.ret (.ref x))) s'),codeAny c.M A (.call (.ref 1397) ⟨[.ref a,.int room rt,.int key kt,.int val vt,.int now nt,.int last lt],[]⟩) R s
set_option maxHeartbeats 2000000 in
theorem law_put {rs:List Rw}{a:Addr}{room key val now last:Int}{rt kt vt nt lt:Tok}:@law_put_P c L s A R rs a room key val now last rt kt vt nt lt:=by
 revert c L s A R rs a room key val now last rt kt vt nt lt
 walk_at "e9"; intro c L s A R rs a room key
 walk_at "e5"; intro val now last rt kt
 walk_at "e2"; intro vt nt
 walk_at "e1"; intro lt
 intro S hr hh hz hm h0 h1 h2
 refine f_call fn1397 [(98,.ref a),(99,.int room rt),(11,.int key kt),(15,.int val vt),(100,.int now nt),(101,.int last lt)] S (by lia) (by rfl) (by kernel_rfl!) (by kernel_rfl!) ?_
 intro fr s S
 have F:=fn1397
 walk_at "g"
 by_cases hl:last=0
 ·subst hl
  refine Br.t ?_
  walk_at "g"
  refine To.K keep1385 ?_
  walk_at "g"
  rename_i b s S
  have S1:St c ((a,LiP (refs rs))::(b,LiP [])::(fr,Nm [(101,.int 0 lt),(100,.int now nt),(15,.int val vt),(11,.int key kt),(99,.int room rt),(98,.ref a)])::L) s:=S.perm (by exact ixd [2,0,0] rfl)
  refine ⟨⟨_,S1⟩,law_without S1 (by rw [depth_deeper]; lia) hh (by lia) (fun r hr=>.tail _ (.tail _ (hm r hr))) fun D s S=>?_⟩
  walk_at "g"
  rename_i x s S
  refine h0 rfl x b D _ ?_
  exact (S.dropAt (p:=(fr,_)) (by walk_at "k")).perm (by exact ixd [0,2,0] rfl)
 ·rw [show (last == 0)=false by simpa using hl]
  walk_at "g"
  by_cases hroom:room<1
  ·rw [decide_eq_true hroom]
   walk_at "g"
   rename_i s S
   have S:=S.dropAt (p:=(fr,_)) (by walk_at "k")
   exact h1 hl hroom _ _ _ _ S
  ·rw [decide_eq_false hroom]
   walk_at "g"
   rename_i s0 S
   refine x_while (fun n s=>∃ rs' a',n=rs'.length∧trim room key rs'=trim room key rs∧rs'.length≤rs.length∧(∀ r∈rs',(r.a,TuP r.tup)∈L) ∧
    St c ((a',LiP (refs rs'))::(fr,Nm [(98,.ref a'),(101,.int last lt),(100,.int now nt),(15,.int val vt),(11,.int key kt),(99,.int room rt)])::L) s) rs.length ⟨rs,a,rfl,rfl,Nat.le_refl _,hm,?_⟩ fun n s hI=>?_
   ·have S:=(S.pick (p:=(fr,_)) (by walk_at "k"))
    have S:=S.weak (P':=Nm [(98,.ref a),(101,.int last lt),(100,.int now nt),(15,.int val vt),(11,.int key kt),(99,.int room rt)]) .here (fun o z=>z.cong fun k=>by
     simp only [List.reverse_cons,List.reverse_nil,List.nil_append,List.cons_append,List.lookup]
     by_cases h98:k=98
     ·subst h98; rfl
     ·have:(k == 98)=false:=by simpa using h98
      rw [this])
    exact S.perm (by exact ixd [1] rfl)
   ·obtain ⟨rs',a',rfl,ht,hle,hm',S⟩:=hI
    walk_at "g"
    refine To.K keep1385 ?_
    walk_at "g"
    refine ⟨⟨_,S⟩,law_without S (by rw [depth_deeper]; lia) hh (by lia) (fun r hr=>.tail _ (hm' r hr)) fun D s S=>?_⟩
    walk_at "g"
    refine l_len S (by walk_at "m") (by have:=wo_len key rs'; unfold refs; rw [List.length_map]; unfold wo at this; lia) fun tk s S=>?_
    have el:((refs (rs'.filter fun r=>r.k != key)).length:Int)=((wo key rs').length:Int):=by unfold refs wo; rw [List.length_map]
    rw [el]
    walk_at "g"
    rename_i S
    by_cases hc:room<((wo key rs').length:Int)+1
    ·rw [decide_eq_true hc]
     walk_at "g"
     cases rs' with
     | nil =>
      have:((wo key ([] : List Rw)).length:Int)=0:=rfl
      exfalso; lia
     | cons r rest =>
      refine x_tail ‹_› (xs:=refs (r::rest)) (by walk_at "m") (by unfold refs; rw [List.length_map]; lia) fun d s S=>?_
      walk_at "g"
      rename_i S
      refine ⟨rest.length,Nat.lt_succ_self _,rest,d,rfl,?_,by rw [List.length_cons] at hle; lia,fun r' hr'=>hm' r' (.tail _ hr'),?_⟩
      ·rw [← ht]
       conv=>rhs; unfold trim
       rw [if_pos hc]
      ·have S:=S.dropAt (p:=(a',_)) (by walk_at "k")
       have S:=S.dropAt (p:=(D,_)) (by walk_at "k")
       have S:=S.pick (p:=(fr,_)) (by walk_at "k")
       have S:=S.weak (P':=Nm [(98,.ref d),(101,.int last lt),(100,.int now nt),(15,.int val vt),(11,.int key kt),(99,.int room rt)]) .here (fun o z=>Nm.norm0 z)
       exact S.perm (by exact ixd [1] rfl)
    ·rw [decide_eq_false hc]
     have et':trim room key rs'=rs':=by
      cases rs' with
      | nil=>rfl
      | cons r rest =>
       unfold trim
       rw [if_neg hc]
     have S:=S.dropAt (p:=(D,_)) (by walk_at "k")
     walk_at "g"
     refine To.K keep1385 ?_
     walk_at "g"
     rename_i b s S
     have S1:St c ((a',LiP (refs rs'))::(b,LiP [])::(fr,Nm [(98,.ref a'),(101,.int last lt),(100,.int now nt),(15,.int val vt),(11,.int key kt),(99,.int room rt)])::L) s:=S.perm (by exact ixd [1] rfl)
     refine ⟨⟨_,S1⟩,law_without S1 (by rw [depth_deeper]; lia) hh (by lia) (fun r hr=>.tail _ (.tail _ (hm' r hr))) fun D s S=>?_⟩
     walk_at "g"
     rename_i et s1 S1 n s2 S2 al s3 S3
     refine l_add S3 (by walk_at "m") (by walk_at "m") (by have:=wo_len key rs'; unfold refs; rw [List.length_map]; unfold wo at this; rw [List.length_cons,List.length_nil]; lia) fun D3 s S=>?_
     walk_at "g"
     rename_i S
     have S:=S.dropAt (p:=(fr,_)) (by walk_at "k")
     have S:=S.dropAt (p:=(a',_)) (by walk_at "k")
     have S:=S.dropAt (p:=(D,_)) (by walk_at "k")
     have S:=S.dropAt (p:=(al,_)) (by walk_at "k")
     refine h2 hl (by lia) _ b D3 n et _ ?_
     rw [← ht,et']
     have e2:refs (wo key rs'++[⟨n,key,kt,val,vt,now+last,et⟩])=refs (rs'.filter fun r=>r.k != key)++[.ref n]:=by unfold refs wo; simp
     rw [e2]
     exact S.perm (by exact ixd [0,2] rfl)
end
end
section
theorem pr1 {i:Nat} (h:1≤i):2*((i-1) / 2)+1≤i:=Nat.add_le_of_le_sub h (Nat.mul_div_le _ _)
theorem prlt {i:Nat} (h:1≤i):(i-1) / 2<i:=Nat.lt_of_le_of_lt (Nat.div_le_self _ _) (Nat.sub_lt h (by decide))
theorem prq {c p:Nat} (h:c=2*p+1∨c=2*p+2):(c-1) / 2=p:=by
 rcases h with rfl | rfl
 ·show 2*p / 2=p
  exact Nat.mul_div_cancel_left p (by decide)
 ·show (2*p+1) / 2=p
  rw [Nat.mul_add_div (by decide)]; rfl
theorem prgt {c p:Nat} (h:c=2*p+1∨c=2*p+2):p<c:=by
 have:=Nat.le_mul_of_pos_left p (show 0<2 by decide)
 rcases h with rfl | rfl
 ·exact Nat.lt_succ_of_le this
 ·exact Nat.lt_succ_of_le (Nat.le_succ_of_le this)
noncomputable def Hp (n top:Nat) (f:Nat→Int):Prop:=∀ i,1≤i→i<n→top≤(i-1) / 2→f ((i-1) / 2)≤f i
noncomputable def Dn (n top pos:Nat) (f:Nat→Int):Prop :=
 (∀ i,1≤i→i<n→top≤(i-1) / 2→i≠pos→(i-1) / 2≠pos→f ((i-1) / 2)≤f i)∧(pos≠top→∀ j,1≤j→j<n→(j-1) / 2=pos→f ((pos-1) / 2)≤f j)
noncomputable def Up (n top pos:Nat) (f:Nat→Int):Prop :=
 (∀ i,1≤i→i<n→top≤(i-1) / 2→i≠pos→f ((i-1) / 2)≤f i)∧(pos≠top→∀ j,1≤j→j<n→(j-1) / 2=pos→f ((pos-1) / 2)≤f j)
noncomputable def swp (f:Nat→Int) (i j k:Nat):Int:=if k=i then f j else if k=j then f i else f k
theorem swp_l {f:Nat→Int}{i j:Nat}:swp f i j i=f j:=if_pos rfl
theorem swp_r {f:Nat→Int}{i j:Nat}:swp f i j j=f i:=by
 unfold swp
 by_cases h:j=i
 ·subst h; rw [if_pos rfl]
 ·rw [if_neg h,if_pos rfl]
theorem swp_o {f:Nat→Int}{i j k:Nat} (h1:k≠i) (h2:k≠j):swp f i j k=f k:=by unfold swp; rw [if_neg h1,if_neg h2]
theorem dn_start {n top:Nat}{f:Nat→Int} (h:Hp n (top+1) f):Dn n top top f :=
 ⟨fun i h1 h2 h3 _ h5=>h i h1 h2 (Nat.lt_of_le_of_ne h3 (Ne.symm h5)),fun z=>absurd rfl z⟩
theorem lf {n pos i:Nat} (a:2*pos+1≤i) (b:i<n) (h:n / 2≤pos):False:=by
 have:=(Nat.div_lt_iff_lt_mul (by decide:0<2)).mp (Nat.lt_succ_of_le h)
 clear h; lia
theorem dn_leaf {n top pos:Nat}{f:Nat→Int} (h:Dn n top pos f) (hp:n / 2≤pos):Up n top pos f :=
 ⟨fun i h1 h2 h3 h4=>h.1 i h1 h2 h3 h4 (fun z=>lf (z ▸ pr1 h1) h2 hp),h.2⟩
theorem up_stop {n top pos:Nat}{f:Nat→Int} (h:Up n top pos f) (hs:pos≤top∨¬ f pos<f ((pos-1) / 2)):Hp n top f:=by
 intro i h1 h2 h3
 by_cases e:i=pos
 ·subst e
  rcases hs with hs | hs
  ·exact absurd (Nat.lt_of_le_of_lt (Nat.le_trans hs h3) (prlt h1)) (Nat.lt_irrefl _)
  ·exact Int.not_lt.mp hs
 ·exact h.1 i h1 h2 h3 e
theorem dn_step {n top pos c:Nat}{f:Nat→Int} (h:Dn n top pos f) (ht:top≤pos) (hc:c=2*pos+1∨c=2*pos+2) (hn:c<n) (hmin:∀ j,1≤j→j<n→(j-1) / 2=pos→f c≤f j):Dn n top c (swp f c pos):=by
 have hcp:=prq hc
 have hgt:=prgt hc
 refine ⟨fun i h1 h2 h3 h4 h5=>?_,fun _ j h1 h2 h3=>?_⟩
 ·by_cases e1:i=pos
  ·subst e1
   rw [swp_r,swp_o h5 (Nat.ne_of_lt (prlt h1))]
   exact h.2 (Nat.ne_of_gt (Nat.lt_of_le_of_lt h3 (prlt h1))) c (Nat.lt_of_le_of_lt (Nat.zero_le _) hgt) hn hcp
  ·rw [swp_o (k:=i) h4 e1]
   by_cases e2:(i-1) / 2=pos
   ·rw [e2,swp_r]
    exact hmin i h1 h2 e2
   ·rw [swp_o h5 e2]
    exact h.1 i h1 h2 h3 e1 e2
 ·have hjc:c<j:=h3 ▸ prlt h1
  rw [hcp,swp_r,swp_o (Nat.ne_of_gt hjc) (Nat.ne_of_gt (Nat.lt_trans hgt hjc))]
  have:=h.1 j h1 h2 (h3.symm ▸ Nat.le_trans ht (Nat.le_of_lt hgt)) (Nat.ne_of_gt (Nat.lt_trans hgt hjc)) (fun z=>Nat.ne_of_gt hgt (h3.symm.trans z))
  rw [h3] at this
  exact this
theorem up_step {n top pos q:Nat}{f:Nat→Int} (h:Up n top pos f) (hq:q=(pos-1) / 2) (ht:top≤q) (hin:q≠top→top≤(q-1) / 2) (hp:1≤pos) (hn:pos<n) (hlt:f pos<f q):Up n top q (swp f q pos):=by
 have hqp:q<pos:=hq ▸ prlt hp
 have hne:q≠pos:=Nat.ne_of_lt hqp
 refine ⟨fun i h1 h2 h3 h4=>?_,fun hqt j h1 h2 h3=>?_⟩
 ·by_cases e1:i=pos
  ·subst e1
   rw [← hq,swp_r,swp_l]; exact Int.le_of_lt hlt
  ·rw [swp_o (k:=i) h4 e1]
   by_cases e2:(i-1) / 2=q
   ·rw [e2,swp_l]
    have:=h.1 i h1 h2 h3 e1
    rw [e2] at this
    exact Int.le_trans (Int.le_of_lt hlt) this
   ·by_cases e3:(i-1) / 2=pos
    ·rw [e3,swp_r]
     have:=h.2 (Nat.ne_of_gt (Nat.lt_of_le_of_lt ht hqp)) i h1 h2 e3
     rw [← hq] at this
     exact this
    ·rw [swp_o e2 e3]
     exact h.1 i h1 h2 h3 e1
 ·have hq1:1≤q:=Nat.lt_of_le_of_lt (Nat.zero_le top) (Nat.lt_of_le_of_ne ht (Ne.symm hqt))
  have ht2:=hin hqt
  have a:=h.1 q hq1 (Nat.lt_trans hqp hn) ht2 hne
  rw [swp_o (k:=(q-1) / 2) (Nat.ne_of_lt (prlt hq1)) (Nat.ne_of_lt (Nat.lt_trans (prlt hq1) hqp))]
  by_cases e1:j=pos
  ·subst e1; rw [swp_r]; exact a
  ·rw [swp_o (Nat.ne_of_gt (Nat.lt_of_le_of_lt (Nat.le_of_eq h3.symm) (prlt h1))) e1]
   have b:=h.1 j h1 h2 (h3.symm ▸ ht) e1
   rw [h3] at b
   exact Int.le_trans a b
inductive In (top:Nat):Nat→Prop
 | refl:In top top
 | left {q}:In top q→In top (2*q+1)
 | right {q}:In top q→In top (2*q+2)
theorem In.le {top pos:Nat} (h:In top pos):top≤pos:=by induction h <;> lia
theorem In.parent {top pos:Nat} (h:In top pos) (hne:pos≠top):In top ((pos-1) / 2):=by
 cases h with
 | refl=>exact absurd rfl hne
 | @left q h=>rw [prq (.inl rfl)]; exact h
 | @right q h=>rw [prq (.inr rfl)]; exact h
end
section
section
variable {env:Env}{fr:Addr}{l:List (Nat × Value)}
set_option genInjectivity false in
structure It where
 a:Addr
 dx:Addr
 e:Int
 et:Tok
 k:Int
 kt:Tok
 rm:Bool
noncomputable abbrev It.P (t:It):Obj→Prop:=SlP 1282 t.dx [some (.int t.e t.et),some (.int t.k t.kt),some (.bool t.rm)]
noncomputable def itCells:List It→List Cell
 | []=>[]
 | t::ts=>(t.a,t.P)::(t.dx,Dm [])::itCells ts
noncomputable def irefs (hs:List It):List Value:=hs.map fun t=>.ref t.a
noncomputable def Has (t:It) (L:List Cell):Prop:=(t.a,t.P)∈L∧(t.dx,Dm [])∈L
theorem It.lt {x y:It} (S:St c L s) (hx:Has x L) (hy:Has y L) (hr:A.depth<recursionLimit) (h:∀ s',St c L s'→R (.ok (.ret (.bool (decide (x.e<y.e))))) s') :
  codeAny c.M A (.call (.ref 1278) ⟨[.ref x.a,.ref y.a],[]⟩) R s:=by
 obtain ⟨hx1,hx2⟩:=hx
 obtain ⟨hy1,hy2⟩:=hy
 refine f_call fn1278 [(1,.ref x.a),(73,.ref y.a)] S hr (by rfl) (by kernel_rfl!) (by kernel_rfl!) ?_
 intro fr s S
 have F:=fn1278
 walk_at "g"
 rename_i S
 exact h _ (S.dropAt (p:=(fr,_)) (by walk_at "k"))
noncomputable def ltOk (K:Frag):Bool:=decide (findIn K (.ref 1282) "__lt__" = some (some (.ref 1278))) && isFn K (.ref 1278)
theorem ltOk_ (P:Params):ltOk (Mine.K P)=true:=by kernel_rfl!
theorem It.less {x y:It}{Q:Value→Shared→Prop} (S:St c L s) (hfr:(fr,Nm l)∈L) (hx:Has x L) (hy:Has y L) (hr:A.depth<recursionLimit) (hu:A.units<cLine) (h:∀ s',St c L s'→Q (.bool (decide (x.e<y.e))) s') :
  wpAny c.M A (richCompare .Lt (.ref x.a) (.ref y.a)) Q E s:=by
 have hc:=ltOk_ c.P
 unfold ltOk at hc
 simp only [Bool.and_eq_true,decide_eq_true_eq] at hc
 obtain ⟨m,F⟩:=S.frm hfr
 obtain ⟨o,e,rfl⟩:=S.get hx.1
 obtain ⟨od,e',_⟩:=S.get hx.2
 obtain ⟨oy,ey,rfl⟩:=S.get hy.1
 refine cmp_K (od:=some od) (tb:=.ref 1282) hu F S.ok.K ⟨e,rfl,rfl,e'⟩ ((Looks.ld ey).andThen .now) (by unfold notFirst; rw [Bool.or_eq_true]; exact .inl (by simp)) hc.1 hc.2 (x_code (It.lt S hx hy hr fun s' S'=>?_))
 exact h s' S'
noncomputable def fOf (hs:List It) (i:Nat):Int:=((hs[i]?).map It.e).getD 0
theorem entry_sift:entryFor table "_heapq.heapify.sift" = some Builtin.«_heapq.heapify.sift»:=entryFor_of_tree (by kernel_rfl)
noncomputable def swapL (hs:List It) (i j:Nat) (x y:It):List It:=(hs.set i y).set j x
theorem swapL_perm {hs:List It}{i j:Nat}{x y:It} (hx:hs[i]? = some x) (hy:hs[j]? = some y):(swapL hs i j x y).Perm hs:=by
 obtain ⟨hi,rfl⟩:=List.getElem?_eq_some_iff.mp hx
 obtain ⟨hj,rfl⟩:=List.getElem?_eq_some_iff.mp hy
 have h:=Array.swap_perm (xs:=hs.toArray) (i:=i) (j:=j) (by simpa using hi) (by simpa using hj)
 have e:(hs.toArray.swap i j (by simpa using hi) (by simpa using hj))=(swapL hs i j hs[i] hs[j]).toArray:=by
  simp [Array.swap_def,swapL]
 rw [e] at h
 simpa using h.toList
theorem swapL_f {hs:List It}{i j:Nat}{x y:It} (hx:hs[i]? = some x) (hy:hs[j]? = some y):fOf (swapL hs i j x y)=swp (fOf hs) i j:=by
 obtain ⟨hi,rfl⟩:=List.getElem?_eq_some_iff.mp hx
 obtain ⟨hj,rfl⟩:=List.getElem?_eq_some_iff.mp hy
 funext k
 unfold fOf swp swapL
 rw [List.getElem?_set,List.length_set]
 by_cases h1:j=k
 ·subst h1
  rw [if_pos rfl,if_pos hj]
  by_cases h2:j=i
  ·subst h2; rw [if_pos rfl]; simp [hj]
  ·rw [if_neg h2,if_pos rfl]; simp [hi]
 ·rw [if_neg h1,List.getElem?_set]
  by_cases h2:i=k
  ·subst h2; rw [if_pos rfl,if_pos hi,if_pos rfl]; simp [hj]
  ·rw [if_neg h2,if_neg (Ne.symm h2),if_neg (Ne.symm h1)]
theorem swapL_refs {hs:List It}{i j:Nat}{x y:It}:((irefs hs).toArray.setIfInBounds i (.ref y.a)).setIfInBounds j (.ref x.a)=(irefs (swapL hs i j x y)).toArray:=by
 unfold irefs swapL
 simp [List.map_set]
theorem irefs_get {hs:List It}{i:Nat}{x:It} (hx:hs[i]? = some x):(irefs hs).toArray[i]? = some (.ref x.a):=by
 unfold irefs; simp [hx]
theorem irefs_size {hs:List It}:(irefs hs).toArray.size=hs.length:=by unfold irefs; simp
theorem fOf_eq {hs:List It}{i:Nat}{x:It} (hx:hs[i]? = some x):fOf hs i=x.e:=by unfold fOf; rw [hx]; rfl

theorem l_upd {a:Addr}{xs ys:List Value}{L':List Cell}{f:Array Value→Array Value}{Q:Unit→Shared→Prop} (S:St c L s) (hd:Rep a (LiP xs) (LiP ys) L L') (e:f xs.toArray=ys.toArray) (hz:xs.length≤1000) (hz2:ys.length≤1000)
  (h:∀ s',St c L' s'→Q () s'):wpAny c.M A (updateSeq a f) Q E s:=by
 obtain ⟨n,ea⟩:=S.plist hd.mem
 have z1:xs.toArray.size≤sizeLine:=by rw [List.size_toArray,sizeLine_eq]; lia
 have z2:(f xs.toArray).size≤sizeLine+1:=by rw [e,List.size_toArray,sizeLine_eq]; lia
 refine wpAny_updateSeq (hz:=z1) (_hz':=z2) ea rfl (h _ (S.change hd (Heap.SameBut.update ..) ?_ rfl))
 refine ⟨_,Heap.get?_update_self _ ea rfl,?_⟩
 exact ⟨_,congrArg (fun z=>({ cls:=.type "list", data:=.seq z _ }:Obj)) e⟩
theorem hq_at {xs:Array Value}{i:Nat}{v:Value} (h:xs[i]? = some v):(match xs[i]? with | some v=>pure v | none=>unsupported "internal:_heapq.index" : Sem Value)=pure v:=by rw [h]
theorem prleaf {n pos:Nat} (h:pos<n / 2):2*pos+1<n:=by lia
theorem prj {j p:Nat} (h:1≤j) (e:(j-1) / 2=p):j=2*p+1∨j=2*p+1+1:=by lia
theorem prM (n t pos:Nat):n-t+n+1<3*n+3+pos:=by lia
theorem sift_go {a:Addr}{result:Value} (hr:A.depth<recursionLimit) (hu:A.units+1<cLine) (hfr:(fr,Nm l)∈L) {n:Nat} (hn9:n≤900) {hs0:List It}
  (h:∀ hs' s',hs'.Perm hs0→Hp n 0 (fOf hs')→St c ((a,LiP (irefs hs'))::L) s'→R (.ok (.ret result)) s') (hcell:∀ t∈hs0,Has t L) :
  ∀ (M top pos:Nat) (down:Bool) (hs:List It) (s:Shared),M=top*(3*n+3)+(if down then n-pos+n+1 else pos)→hs.Perm hs0→hs.length=n→In top pos→pos<n →
   (down=true→Dn n top pos (fOf hs))→(down=false→Up n top pos (fOf hs))→St c ((a,LiP (irefs hs))::L) s →
   codeAny c.M A (.builtin "_heapq.heapify.sift" ⟨[.ref a,.bool false,.bool down,rawInt pos,rawInt top,result,rawInt ((top:Int)-1)],[]⟩) R s:=by
 intro M
 induction M using Nat.strongRecOn with
 | _ M ih =>
 intro top pos down hs s hM hp hn hin hpn hdn hup S
 have cell:∀ {i x},hs[i]? = some x→Has x ((a,LiP (irefs hs))::L):=fun hx=>by
  obtain ⟨h1,h2⟩:=hcell _ (hp.subset (List.mem_of_getElem? hx))
  exact ⟨.tail _ h1,.tail _ h2⟩
 have len:(irefs hs).length=n:=by unfold irefs; rw [List.length_map,hn]
 have lenS:∀ {i j x y},(irefs (swapL hs i j x y)).length=n:=fun {i j x y}=>by unfold irefs swapL; rw [List.length_map,List.length_set,List.length_set,hn]
 have some_:∀ {i},i<n→∃ x,hs[i]? = some x:=fun {i} hi=>⟨_,List.getElem?_eq_getElem (hn ▸ hi)⟩
 obtain ⟨nn,ea⟩:=S.plist (.head _)
 refine codeAny_builtin entry_sift ?_
 rw [Around.under_plainId (by decide +kernel)]
 unfold Builtin.«_heapq.heapify.sift»
 dsimp only [rawInt]
 refine wpAny_bind (wpAny_bind (wpAny_seqItems ea rfl (wpAny_pure ?_)))
 rw [irefs_size,hn]
 simp only [Int.toNat_natCast]
 have swapAt:∀ {i j:Nat}{x y:It}{s:Shared}{Q:Unit→Shared→Prop}{E':Value→Shared→Prop},hs[i]? = some x→hs[j]? = some y→St c ((a,LiP (irefs hs))::L) s→(∀ s',St c ((a,LiP (irefs (swapL hs i j x y)))::L) s'→Q () s') →
   wpAny c.M A.in1 (updateSeq a fun xs=>(xs.setIfInBounds i (.ref y.a)).setIfInBounds j (.ref x.a)) Q E' s:=fun hx hy S hQ=>l_upd S .here swapL_refs (by lia) (by rw [lenS]; lia) hQ
 cases down with
 | true =>
  rw [if_pos rfl]
  have hD:=hdn rfl
  rw [if_pos rfl] at hM
  by_cases hleaf:pos<n / 2
  ·rw [if_pos hleaf]
   obtain ⟨x,hx⟩:=some_ hpn
   have hy1:=prleaf hleaf
   obtain ⟨y,hy⟩:=some_ hy1
   -- down to a child
   have goDown:∀ {ch:Nat}{z:It}{s:Shared},hs[ch]? = some z→(ch=2*pos+1∨ch=2*pos+2)→ch<n→(∀ j,1≤j→j<n→(j-1) / 2=pos→fOf hs ch≤fOf hs j)→St c ((a,LiP (irefs (swapL hs ch pos z x)))::L) s →
     codeAny c.M A (.builtin "_heapq.heapify.sift" ⟨[.ref a,.bool false,.bool true,rawInt ch,rawInt top,result,rawInt ((top:Int)-1)],[]⟩) R s:=by
    intro ch z s hz hc hcn hmin S
    refine ih _ ?_ top ch true _ s rfl ((swapL_perm hz hx).trans hp) (by unfold swapL; simp [hn]) (by rcases hc with rfl | rfl; exact hin.left; exact hin.right) hcn (fun _=>?_) (fun z=>nomatch z) S
    ·rw [if_pos rfl,hM]; exact Nat.add_lt_add_left (Nat.add_lt_add_right (Nat.add_lt_add_right (Nat.sub_lt_sub_left hpn (prgt hc)) _) _) _
    ·rw [swapL_f hz hx]
     exact dn_step hD hin.le hc hcn hmin
   by_cases h2:2*pos+1+1<n
   ·rw [if_pos h2]
    obtain ⟨z,hz⟩:=some_ h2
    refine wpAny_bind (wpAny_of_eq (hq_at (irefs_get hy)) ?_)
    refine wpAny_bind (wpAny_of_eq (hq_at (irefs_get hz)) ?_)
    rw [if_neg (by decide)]
    refine wpAny_bind (wpAny_bind (wpAny_holding (wpAny_bind (It.less (l:=l) S (.tail _ hfr) (cell hy) (cell hz) hr hu fun s S=>?_))))
    refine wpAny_truthy_bool ?_
    obtain ⟨nn,ea⟩:=S.plist (.head _)
    refine wpAny_bind (wpAny_bind (wpAny_seqItems ea rfl (wpAny_pure ?_)))
    rw [irefs_size,hn,if_neg (by simp)]
    refine wpAny_pure ?_
    by_cases hlt:y.e<z.e
    ·rw [if_neg (by simpa using hlt)]
     refine wpAny_bind (wpAny_bind (wpAny_bind (wpAny_seqItems ea rfl (wpAny_pure ?_))))
     refine wpAny_bind (wpAny_of_eq (hq_at (irefs_get hy)) ?_)
     refine wpAny_bind (wpAny_of_eq (hq_at (irefs_get hx)) ?_)
     refine swapAt hy hx S fun s S=>?_
     refine wpAny_pure ⟨Code.quiet_builtin _ (by decide +kernel),?_⟩
     refine goDown hy (.inl rfl) hy1 (fun j h1 h3 h4=>?_) S
     rw [fOf_eq hy]
     rcases prj h1 h4 with rfl | rfl
     ·rw [fOf_eq hy]; exact Int.le_refl _
     ·rw [fOf_eq hz]; exact Int.le_of_lt hlt
    ·rw [if_pos (by simpa using hlt)]
     refine wpAny_bind (wpAny_bind (wpAny_bind (wpAny_seqItems ea rfl (wpAny_pure ?_))))
     refine wpAny_bind (wpAny_of_eq (hq_at (irefs_get hz)) ?_)
     refine wpAny_bind (wpAny_of_eq (hq_at (irefs_get hx)) ?_)
     refine swapAt hz hx S fun s S=>?_
     refine wpAny_pure ⟨Code.quiet_builtin _ (by decide +kernel),?_⟩
     refine goDown hz (.inr rfl) h2 (fun j h1 h3 h4=>?_) S
     rw [fOf_eq hz]
     rcases prj h1 h4 with rfl | rfl
     ·rw [fOf_eq hy]; exact Int.not_lt.mp hlt
     ·rw [fOf_eq hz]; exact Int.le_refl _
   ·rw [if_neg h2]
    refine wpAny_bind (wpAny_bind (wpAny_bind (wpAny_seqItems ea rfl (wpAny_pure ?_))))
    refine wpAny_bind (wpAny_of_eq (hq_at (irefs_get hy)) ?_)
    refine wpAny_bind (wpAny_of_eq (hq_at (irefs_get hx)) ?_)
    refine swapAt hy hx S fun s S=>?_
    refine wpAny_pure ⟨Code.quiet_builtin _ (by decide +kernel),?_⟩
    refine goDown hy (.inl rfl) hy1 (fun j h1 h3 h4=>?_) S
    rcases prj h1 h4 with rfl | rfl
    ·exact Int.le_refl _
    ·exact absurd h3 h2
  ·rw [if_neg hleaf]
   refine wpAny_pure ⟨Code.quiet_builtin _ (by decide +kernel),?_⟩
   refine ih _ ?_ top pos false hs s rfl hp hn hin hpn (fun z=>nomatch z) (fun _=>dn_leaf hD (Nat.not_lt.mp hleaf)) S
   rw [if_neg (by decide),hM]
   exact Nat.add_lt_add_left (Nat.lt_succ_of_lt (Nat.lt_of_lt_of_le hpn (Nat.le_add_left _ _))) _
 | false =>
  rw [if_neg (by decide)]
  have hU:=hup rfl
  rw [if_neg (by decide)] at hM
  have stop:∀ {s:Shared},Hp n top (fOf hs)→St c ((a,LiP (irefs hs))::L) s→wpAny c.M A.in1 (if ((top:Int)-1)<0 then ret result else
    again (.builtin "_heapq.heapify.sift" ⟨[.ref a,.bool false,.bool true,.int (((top:Int)-1).toNat:Int) 0,.int (((top:Int)-1).toNat:Int) 0,result,.int ((top:Int)-1-1) 0],[]⟩)) (fun fin s'=>match fin with
     | .done f=>R (.ok f) s'
     | .again c'=>c'.quiet=true∧codeAny c.M A c' R s') (fun e s'=>R (.error e) s') s:=by
   intro s hH S
   cases top with
   | zero =>
    rw [if_pos (by decide)]
    exact wpAny_pure (h hs s hp hH S)
   | succ t =>
    have e0:((t+1:Nat):Int)-1=(t:Int):=(congrArg (· - 1) (Int.natCast_succ t)).trans (Int.add_sub_cancel _ _)
    rw [if_neg (by rw [e0]; exact Int.not_lt.mpr (Int.natCast_nonneg t))]
    refine wpAny_pure ⟨Code.quiet_builtin _ (by decide +kernel),?_⟩
    have e1:(((t+1:Nat):Int)-1).toNat=t:=by rw [e0]; exact Int.toNat_natCast t
    have e2:((t+1:Nat):Int)-1-1=(t:Int)-1:=by rw [e0]
    rw [e1,e2]
    refine ih _ ?_ t t true hs s rfl hp hn .refl (Nat.lt_of_lt_of_le (Nat.lt_succ_self t) (Nat.le_trans hin.le (Nat.le_of_lt hpn))) (fun _=>dn_start hH) (fun z=>nomatch z) S
    rw [if_pos rfl]
    rw [hM,Nat.succ_mul t,Nat.add_assoc (t*_)]
    exact Nat.add_lt_add_left (prM n t pos) _
  by_cases hpt:pos > top
  ·rw [if_pos hpt]
   obtain ⟨x,hx⟩:=some_ hpn
   have hp1:1≤pos:=Nat.lt_of_le_of_lt (Nat.zero_le _) hpt
   have hq:(pos-1) / 2<n:=Nat.lt_trans (prlt hp1) hpn
   obtain ⟨y,hy⟩:=some_ hq
   refine wpAny_bind (wpAny_of_eq (hq_at (irefs_get hx)) ?_)
   refine wpAny_bind (wpAny_of_eq (hq_at (irefs_get hy)) ?_)
   rw [if_neg (by decide)]
   refine wpAny_bind (wpAny_bind (wpAny_holding (wpAny_bind (It.less (l:=l) S (.tail _ hfr) (cell hx) (cell hy) hr hu fun s S=>?_))))
   refine wpAny_truthy_bool ?_
   obtain ⟨nn,ea⟩:=S.plist (.head _)
   refine wpAny_bind (wpAny_bind (wpAny_seqItems ea rfl (wpAny_pure ?_)))
   rw [irefs_size,hn,if_neg (by simp)]
   refine wpAny_pure ?_
   have hpar:=hin.parent (Nat.ne_of_gt hpt)
   by_cases hlt:x.e<y.e
   ·rw [if_pos (decide_eq_true hlt)]
    refine wpAny_bind (wpAny_bind (wpAny_bind (wpAny_seqItems ea rfl (wpAny_pure ?_))))
    refine wpAny_bind (wpAny_of_eq (hq_at (irefs_get hy)) ?_)
    refine wpAny_bind (wpAny_of_eq (hq_at (irefs_get hx)) ?_)
    refine swapAt hy hx S fun s S=>?_
    refine wpAny_pure ⟨Code.quiet_builtin _ (by decide +kernel),?_⟩
    refine ih _ ?_ top ((pos-1) / 2) false _ s rfl ((swapL_perm hy hx).trans hp) (by unfold swapL; simp [hn]) hpar hq (fun z=>nomatch z) (fun _=>?_) S
    ·rw [if_neg (by decide),hM]; exact Nat.add_lt_add_left (prlt hp1) _
    ·rw [swapL_f hy hx]
     exact up_step hU rfl hpar.le (fun hne=>(hpar.parent hne).le) hp1 hpn (by rw [fOf_eq hx,fOf_eq hy]; exact hlt)
   ·rw [if_neg (by simpa using hlt)]
    exact stop (up_stop hU (.inr (by rw [fOf_eq hx,fOf_eq hy]; exact hlt))) S
  ·rw [if_neg hpt]
   exact stop (up_stop hU (.inl (Nat.not_lt.mp hpt))) S
end
end
section
section
variable {env:Env}{fr:Addr}{l:List (Nat × Value)}
theorem c_mod {id:String}{b:Builtin}{args:List Value} (hk:builtinKind id=none) (hp:plainId id=true) (hb:entryFor table id=some b) (ha:argsOk id ⟨args,[]⟩)
  (h:wpAny c.M A.in1 (b ⟨args,[]⟩) (fun fin s'=>match fin with | .done f=>R (.ok f) s' | .again c'=>c'.quiet=true∧codeAny c.M A c' R s') (fun e s'=>R (.error e) s') s):codeAny c.M A (.call (.builtin id) ⟨args,[]⟩) R s:=by
 refine codeAny_call_builtin hp hb ?_
 simp only [checkBuiltinCall,hk]
 cases hsig:Manifest.signature? id with
 | none=>exact wpAny_pure h
 | some sig =>
  simp only [argsOk,hsig] at ha
  have h2:Bind.checkArgs id sig ⟨args,[]⟩=pure ():=ha
  show wpAny _ A.in1 (Bind.checkArgs id sig ⟨args,[]⟩) _ _ s
  rw [h2]
  exact wpAny_pure h
theorem entry_push:entryFor table "_heapq.heappush" = some Builtin.«_heapq.heappush»:=entryFor_of_tree (by kernel_rfl)
theorem entry_hpop:entryFor table "_heapq.heappop" = some Builtin.«_heapq.heappop»:=entryFor_of_tree (by kernel_rfl)
theorem entry_heapify:entryFor table "_heapq.heapify" = some Builtin.«_heapq.heapify»:=entryFor_of_tree (by kernel_rfl)
theorem args_push (a b:Value):argsOk "_heapq.heappush" ⟨[a,b],[]⟩:=by unfold argsOk; kernel_rfl
theorem args_hpop (a:Value):argsOk "_heapq.heappop" ⟨[a],[]⟩:=by unfold argsOk; kernel_rfl
theorem args_heapify (a:Value):argsOk "_heapq.heapify" ⟨[a],[]⟩:=by unfold argsOk; kernel_rfl
theorem sub_list:isSubtype (.type "list") (.type "list")=pure true:=by rw [isSubtype_type]; kernel_rfl
theorem In.zero:∀ pos,In 0 pos:=by
 intro pos
 induction pos using Nat.strongRecOn with
 | _ pos ih =>
 cases pos with
 | zero=>exact .refl
 | succ p =>
  have hq:=ih ((p+1-1) / 2) (prlt (Nat.succ_pos p))
  rcases prj (Nat.succ_pos p) rfl with e | e
  ·exact (congrArg (In 0) e).mpr hq.left
  ·exact (congrArg (In 0) e).mpr hq.right
theorem fOf_app {hs ts:List It}{i:Nat} (h:i<hs.length):fOf (hs++ts) i=fOf hs i:=by
 unfold fOf; rw [List.getElem?_append_left h]
theorem Has.cons {t:It}{p:Cell} (h:Has t L):Has t (p::L):=⟨.tail _ h.1,.tail _ h.2⟩
theorem h_push {a:Addr}{hs:List It}{x:It} (S:St c ((a,LiP (irefs hs))::L) s) (hr:A.depth<recursionLimit) (hu:A.units+1<cLine) (hfr:(fr,Nm l)∈L) (hcell:∀ t∈hs,Has t L) (hx:Has x L) (hp:Hp hs.length 0 (fOf hs)) (hn:hs.length≤800)
  (h:∀ hs' s',hs'.Perm (hs++[x])→Hp hs'.length 0 (fOf hs')→St c ((a,LiP (irefs hs'))::L) s'→R (.ok (.ret .none)) s'):codeAny c.M A (.call (.builtin "_heapq.heappush") ⟨[.ref a,.ref x.a],[]⟩) R s:=by
 refine c_mod (by decide +kernel) (by decide +kernel) entry_push (args_push _ _) ?_
 unfold Builtin.«_heapq.heappush»
 have pl:=S.plist (.head _)
 obtain ⟨nn,ea⟩:=pl
 have tl:s.TypeIs (.ref a) "list" := ⟨_,ea,rfl⟩
 refine wpAny_bind (wpAny_bind (wpAny_pure (wpAny_bind (wpAny_pure (wpAny_bind (wpAny_bind (wpAny_isInstance tl sub_list ?_)))))))
 refine wpAny_pure (wpAny_pure ?_)
 have lenr:∀ ts:List It,(irefs ts).length=ts.length:=fun ts=>by unfold irefs; rw [List.length_map]
 refine wpAny_bind (l_upd S .here (ys:=irefs (hs++[x])) (by unfold irefs; simp) (by rw [lenr]; lia) (by rw [lenr,List.length_append]; simp; lia) fun s S=>?_)
 obtain ⟨nn,ea⟩:=S.plist (.head _)
 refine wpAny_bind (wpAny_bind (wpAny_seqItems ea rfl (wpAny_pure ?_)))
 have e1:(irefs (hs++[x])).toArray.size-1=hs.length:=by rw [irefs_size,List.length_append]; rfl
 rw [e1]
 refine wpAny_pure ⟨Code.quiet_builtin _ (by decide +kernel),?_⟩
 refine sift_go (n:=hs.length+1) hr hu hfr (by lia) (hs0:=hs++[x]) (fun hs' s' hp' hH S'=>h hs' s' hp' ?_ S') (fun t ht=>?_) _ 0 hs.length false (hs++[x]) s rfl (.refl _) (by rw [List.length_append]; rfl) (In.zero _) (by lia) (fun z=>nomatch z) (fun _=>?_) S
 ·have:hs'.length=hs.length+1:=by rw [hp'.length_eq,List.length_append]; rfl
  rw [this]; exact hH
 ·rcases List.mem_append.mp ht with ht | ht
  ·exact hcell t ht
  ·rw [List.mem_singleton] at ht; rw [ht]; exact hx
 ·refine ⟨fun i h1 h2 h3 h4=>?_,fun h0 j h1 h2 h3=>?_⟩
  ·have hi:i<hs.length:=Nat.lt_of_le_of_ne (Nat.le_of_lt_succ h2) h4
   rw [fOf_app hi,fOf_app (Nat.lt_trans (prlt h1) hi)]
   exact hp i h1 hi h3
  ·exact absurd (h3 ▸ prlt h1:hs.length<j) (Nat.not_lt.mpr (Nat.le_of_lt_succ h2))
noncomputable def h_pop_P (a:Addr) (hs:List It) (x:It):Prop:=∀ (S:St c ((a,LiP (irefs (x::hs)))::L) s) (hr:A.depth<recursionLimit) (hu:A.units+1<cLine) (hfr:(fr,Nm l)∈L) (hcell:∀ t∈x::hs,Has t L) (hp:Hp (hs.length+1) 0 (fOf (x::hs))) (hn:hs.length≤800) (h:∀ hs' s',hs'.Perm hs→Hp hs'.length 0 (fOf hs')→St c ((a,LiP (irefs hs'))::L) s'→R (.ok (.ret (.ref x.a))) s'),codeAny c.M A (.call (.builtin "_heapq.heappop") ⟨[.ref a],[]⟩) R s
theorem h_pop {a:Addr}{hs:List It}{x:It}:@h_pop_P c L s A R fr l a hs x:=by
 revert c L s A R fr l a hs x
 walk_at "e9"; intro c L s A R fr l a hs
 walk_at "e1"; intro x
 intro S hr hu hfr hcell hp hn h
 refine c_mod (by decide +kernel) (by decide +kernel) entry_hpop (args_hpop _) ?_
 unfold Builtin.«_heapq.heappop»
 have pl:=S.plist (.head _)
 obtain ⟨nn,ea⟩:=pl
 have tl:s.TypeIs (.ref a) "list" := ⟨_,ea,rfl⟩
 refine wpAny_bind (wpAny_bind (wpAny_bind (wpAny_pure (wpAny_pure (wpAny_bind (wpAny_bind (wpAny_isInstance tl sub_list ?_)))))))
 refine wpAny_pure (wpAny_pure ?_)
 refine wpAny_bind (wpAny_bind (wpAny_seqItems ea rfl (wpAny_pure ?_)))
 have lenr:∀ ts:List It,(irefs ts).length=ts.length:=fun ts=>by unfold irefs; rw [List.length_map]
 rcases List.eq_nil_or_concat hs with rfl | ⟨ys,z,rfl⟩
 ·refine wpAny_bind (l_upd S .here (ys:=irefs []) (by unfold irefs; simp) (by rw [lenr]; simp) (by rw [lenr]; simp) fun s S=>?_)
  rw [if_pos (by rw [irefs_size]; rfl)]
  exact wpAny_pure (h [] s (.refl _) (fun i h1 h2=>by simp at h2) S)
 ·rw [List.concat_eq_append] at *
  have eb:(irefs (x::(ys++[z]))).toArray.back? = some (.ref z.a):=by unfold irefs; simp [Array.back?]
  rw [eb]
  refine wpAny_bind (l_upd S .here (ys:=irefs (x::ys)) (by
   show (irefs (x::(ys++[z]))).toArray.pop=_
   rw [List.pop_toArray]
   congr 1
   unfold irefs
   rw [List.map_cons,List.map_append,List.map_singleton,← List.cons_append,List.dropLast_concat]
   rfl) (by rw [lenr]; simp at hn ⊢; lia) (by rw [lenr]; simp at hn ⊢; lia) fun s S=>?_)
  rw [if_neg (by rw [irefs_size]; simp)]
  refine wpAny_bind (wpAny_of_eq (hq_at (irefs_get (hs:=x::(ys++[z])) (i:=0) rfl)) ?_)
  refine wpAny_bind (l_upd S .here (ys:=irefs (z::ys)) (by unfold irefs; simp) (by rw [lenr]; simp at hn ⊢; lia) (by rw [lenr]; simp at hn ⊢; lia) fun s S=>?_)
  refine wpAny_pure ⟨Code.quiet_builtin _ (by decide +kernel),?_⟩
  have hpm:(z::ys).Perm (ys++[z]):=(List.perm_append_singleton z ys).symm
  have nlen:(ys++[z]).length=ys.length+1:=by simp
  rw [nlen] at hn hp
  refine sift_go (n:=ys.length+1) hr hu hfr (by lia) (hs0:=z::ys) (fun hs' s' hp' hH S'=>h hs' s' (hp'.trans hpm) ?_ S') (fun t ht=>?_) _ 0 0 true (z::ys) s rfl (.refl _) rfl .refl (by lia) (fun _=>?_) (fun z=>nomatch z) S
  ·have:hs'.length=ys.length+1:=by rw [hp'.length_eq]; rfl
   rw [this]; exact hH
  ·exact hcell t (.tail _ (hpm.subset ht))
  ·refine ⟨fun i h1 h2 h3 h4 h5=>?_,fun h0=>absurd rfl h0⟩
   have e:∀ k,1≤k→k<ys.length+1→fOf (z::ys) k=fOf (x::(ys++[z])) k:=fun k h1 h2=>by
    cases k with
    | zero=>lia
    | succ k =>
     unfold fOf
     rw [List.getElem?_cons_succ,List.getElem?_cons_succ,List.getElem?_append_left (by lia)]
   rw [e i h1 h2,e _ (Nat.pos_of_ne_zero h5) (Nat.lt_trans (prlt h1) h2)]
   exact hp i h1 (Nat.lt_succ_of_lt h2) h3
theorem e21 {q:Nat} (h:1≤q):((q:Nat):Int)-2=((q-1:Nat):Int)-1:=by
 obtain ⟨q,rfl⟩ : ∃ p,q=p+1:=⟨_,(Nat.sub_add_cancel h).symm⟩
 show ((q+1:Nat):Int)-2=(q:Int)-1
 lia
theorem h_heapify {a:Addr}{hs:List It} (S:St c ((a,LiP (irefs hs))::L) s) (hr:A.depth<recursionLimit) (hu:A.units+1<cLine) (hfr:(fr,Nm l)∈L) (hcell:∀ t∈hs,Has t L) (hn:hs.length≤800)
  (h:∀ hs' s',hs'.Perm hs→Hp hs'.length 0 (fOf hs')→St c ((a,LiP (irefs hs'))::L) s'→R (.ok (.ret .none)) s'):codeAny c.M A (.call (.builtin "_heapq.heapify") ⟨[.ref a],[]⟩) R s:=by
 refine c_mod (by decide +kernel) (by decide +kernel) entry_heapify (args_heapify _) ?_
 unfold Builtin.«_heapq.heapify»
 have pl:=S.plist (.head _)
 obtain ⟨nn,ea⟩:=pl
 have tl:s.TypeIs (.ref a) "list" := ⟨_,ea,rfl⟩
 refine wpAny_bind (wpAny_bind (wpAny_bind (wpAny_pure (wpAny_pure (wpAny_bind (wpAny_bind (wpAny_isInstance tl sub_list ?_)))))))
 refine wpAny_pure (wpAny_pure ?_)
 refine wpAny_bind (wpAny_bind (wpAny_seqItems ea rfl (wpAny_pure ?_)))
 dsimp only
 rw [irefs_size]
 rw [if_neg (by lia)]
 by_cases h2:hs.length<2
 ·rw [if_pos h2]
  exact wpAny_pure (h hs s (.refl _) (fun i h1 h3 h4=>by lia) S)
 ·rw [if_neg h2]
  refine wpAny_pure ⟨Code.quiet_builtin _ (by decide +kernel),?_⟩
  have hq:1≤hs.length / 2:=Nat.div_pos (Nat.not_lt.mp h2) (by decide)
  have e:((hs.length / 2:Nat):Int)-2=((hs.length / 2-1:Nat):Int)-1:=e21 hq
  rw [e]
  refine sift_go (n:=hs.length) hr hu hfr (by lia) (hs0:=hs) (fun hs' s' hp' hH S'=>h hs' s' hp' (by rw [hp'.length_eq]; exact hH) S') hcell _ (hs.length / 2-1) (hs.length / 2-1) true hs s rfl (.refl _) rfl .refl (Nat.lt_of_le_of_lt (Nat.sub_le _ _) (Nat.div_lt_self (Nat.lt_of_lt_of_le (by decide) (Nat.not_lt.mp h2)) (by decide))) (fun _=>?_) (fun z=>nomatch z) S
  exact dn_start fun i h1 h3 h4=>(lf (pr1 h1) h3 (Nat.le_trans (Nat.le_of_eq (Nat.sub_add_cancel hq).symm) h4)).elim
end
end
section
section

set_option genInjectivity false in
structure Un (c:Cx) where
 fn:Addr
 last:Int
 G:List Cell
 o:Obj
 fd:FuncData
 isfd:o.data=.func fd
 isfn:∀ {L s},St c (G++L) s→s.heap.get? fn=some o
 call:∀ {L s A R k v t kt vt tt},St c (G++L) s→A.depth<recursionLimit →
  (∀ tk s',St c (G++L) s'→R (.ok (.ret (.int (t+last) tk))) s')→codeAny c.M A (.call (.ref fn) ⟨[.int k kt,.int v vt,.int t tt],[]⟩) R s
set_option genInjectivity false in
structure UCfg (c:Cx) where
 K:Ck c
 U:Un c
 ca:Addr
 cd:Addr
 dd:Addr
 it:Addr
 tm:Addr
 td:Addr
 room:Int
 rtk:Tok
variable {q:UCfg c}{od:Addr}{env:Env}{fr:Addr}
noncomputable abbrev UCfg.D (q:UCfg c) (cs:Value) (od:Addr):List (Nat × Value):=[(4,.ref q.dd),(5,cs),(6,.int q.room q.rtk),(39,.ref q.tm),(76,.ref q.it),(77,.ref od),(78,.ref q.U.fn)]
theorem U_delitem {data:List (Int × Value)}{n:Int}{tk kt:Tok}{key:Int} (S:St c ((q.ca,InstP 1373 q.cd)::(q.cd,Dm (q.D (.int n tk) od))::(q.dd,DI c data)::L) s) (hr:A.depth<recursionLimit)
  (hl:(valueAt data key).isSome=true) (hz:data.length≤1000)
  (h:∀ tk' s',St c ((q.ca,InstP 1373 q.cd)::(q.cd,Dm (q.D (.int (n-1) tk') od))::(q.dd,DI c (without data key))::L) s'→R (.ok (.ret .none)) s') :
  codeAny c.M A (.call (.ref 777) ⟨[.ref q.ca,.int key kt],[]⟩) R s:=by
 refine f_call fn777 [(1,.ref q.ca),(11,.int key kt)] S hr (by rfl) (by kernel_rfl!) (by kernel_rfl!) ?_
 intro fr s S
 have F:=fn777
 walk_at "g"
 refine d_del ‹_› (by walk_at "r") hl hz ?_
 intro _ _
 walk_at "g"
 rename_i S
 exact h _ _ (S.drop.perm (by exact ixd [0,0] rfl))

theorem U_getitem {data:List (Int × Value)}{cs v:Value}{kt:Tok}{key:Int} (S:St c ((q.ca,InstP 1373 q.cd)::(q.cd,Dm (q.D cs od))::(q.dd,DI c data)::L) s) (hr:A.depth<recursionLimit)
  (hl:valueAt data key=some v)
  (h:∀ s',St c ((q.ca,InstP 1373 q.cd)::(q.cd,Dm (q.D cs od))::(q.dd,DI c data)::L) s'→R (.ok (.ret v)) s') :
  codeAny c.M A (.call (.ref 763) ⟨[.ref q.ca,.int key kt],[]⟩) R s:=by
 refine f_call fn763 [(1,.ref q.ca),(11,.int key kt)] S hr (by rfl) (by kernel_rfl!) (by kernel_rfl!) ?_
 intro fr s S
 have F:=fn763
 walk_at "g"
 refine t_get ‹_› (by walk_at "m") hl ?_
 intro _ _
 walk_at "g"
 rename_i S
 exact h _ (S.drop)

theorem U_len {data:List (Int × Value)}{cs:Value} (S:St c ((q.ca,InstP 1373 q.cd)::(q.cd,Dm (q.D cs od))::(q.dd,DI c data)::L) s) (hr:A.depth<recursionLimit) (hz:data.length≤1000)
  (h:∀ tk s',St c ((q.ca,InstP 1373 q.cd)::(q.cd,Dm (q.D cs od))::(q.dd,DI c data)::L) s'→R (.ok (.ret (.int data.length tk))) s') :
  codeAny c.M A (.call (.ref 805) ⟨[.ref q.ca],[]⟩) R s:=by
 refine f_call fn805 [(1,.ref q.ca)] S hr (by rfl) (by kernel_rfl!) (by kernel_rfl!) ?_
 intro fr s S
 have F:=fn805
 walk_at "g"
 refine d_len ‹_› (by walk_at "m") hz ?_
 intro _ _ S
 walk_at "g"
 exact h _ _ (S.drop)
theorem U_timer {cs:Value} (S:St c L s) (hx:(q.ca,InstP 1373 q.cd)∈L) (hd:(q.cd,Dm (q.D cs od))∈L) (hr:A.depth<recursionLimit)
  (h:∀ s',St c L s'→R (.ok (.ret (.ref q.tm))) s'):codeAny c.M A (.call (.ref 973) ⟨[.ref q.ca],[]⟩) R s:=by
 refine f_call fn973 [(1,.ref q.ca)] S hr (by rfl) (by kernel_rfl!) (by kernel_rfl!) ?_
 intro fr s S
 have F:=fn973
 walk_at "g"
 rename_i S
 exact h _ S.drop
theorem eu_timer {cs:Value}{ex:Bool}{Q:Value→Shared→Prop} (S:St c L s) (hx:(q.ca,InstP 1373 q.cd)∈L) (hd:(q.cd,Dm (q.D cs od))∈L) (hr:A.depth<recursionLimit)
  (h:∀ s',St c L s'→Q (.ref q.tm) s'):wpAny c.M A (getAttr (.ref q.ca) (Str.ofString "timer") ex) Q E s:=by
 refine g_prop S hx cls1373 hd (by walk_at "i") (by rfl) fun s S=>?_
 refine U_timer S hx hd hr fun s S=>?_
 show wpAny _ _ (handedOut _) _ _ _
 rw [handedOut_of rfl]
 exact wpAny_pure (h _ S)
theorem timer_usualU (P:Params):usualIn (Mine.K P) 1373 "timer" = true:=by kernel_rfl!
theorem mu_now {cs:Value}{n t:Int}{pos:Pos}{pl:Sem Bool}{Q:Value→Shared→Prop}{L1 L2:List Cell}
  (S:St c L s) (hx:(q.ca,InstP 1373 q.cd)∈L) (hd:(q.cd,Dm (q.D cs od))∈L)
  (p1:Pick (q.tm,InstP 929 q.td) L L1) (p2:Pick (q.td,Tmr q.K.clk n t) L1 L2) (hr:A.depth<recursionLimit) (hn:n≠0)
  (h:∀ tk s',St c ((q.tm,InstP 929 q.td)::(q.td,Tmr q.K.clk n t)::L2) s'→Q (.int t tk) s') :
  wpAny c.M A (getMethod (.ref q.ca) (Str.ofString "timer") pl) (fun fx s₂=>To c A env pos fx.1 fx.2 [] Q E s₂) E s:=by
 refine g_usual S hx hd timer_usualU ?_
 refine eu_timer S hx hd hr fun s S=>?_
 have S:=S.pick2 p1 p2
 obtain ⟨od,e,⟨i,q1⟩⟩:=S.get (.tail _ (.head _))
 refine To.inst (dx:=q.td) (l:=[(31,.ref q.K.clk),(32,.int n i.1),(33,.int t i.2)]) timer_callOk (.nil ⟨⟨_,S.change (P':=Dm [(31,.ref q.K.clk),(32,.int n i.1),(33,.int t i.2)]) (.there .here) (Heap.SameBut.refl _ _) ⟨od,e,q1⟩ rfl,.head _,.tail _ (.head _)⟩,?_⟩)
 exact timer_call_in S hr hn fun tk s S=>h tk s S

theorem U_contains_there {rows:List (Int × Value)}{cs:Value}{x:It}{n t:Int}{kt:Tok}{key:Int}
  (S:St c ((q.ca,InstP 1373 q.cd)::(q.cd,Dm (q.D cs od))::(q.it,DI c rows)::(q.tm,InstP 929 q.td)::(q.td,Tmr q.K.clk n t)::(x.a,x.P)::(x.dx,Dm [])::L) s) (hr:A.depth+1<recursionLimit)
  (hn:n≠0) (hl:valueAt rows key=some (.ref x.a))
  (h:∀ s',St c ((q.ca,InstP 1373 q.cd)::(q.cd,Dm (q.D cs od))::(q.it,DI c rows)::(q.tm,InstP 929 q.td)::(q.td,Tmr q.K.clk n t)::(x.a,x.P)::(x.dx,Dm [])::L) s'→R (.ok (.ret (.bool (decide (t<x.e))))) s') :
  codeAny c.M A (.call (.ref 1303) ⟨[.ref q.ca,.int key kt],[]⟩) R s:=by
 refine f_call fn1303 [(1,.ref q.ca),(11,.int key kt)] S (by lia) (by rfl) (by kernel_rfl!) (by kernel_rfl!) ?_
 intro fr s S
 have F:=fn1303
 walk_at "g"
 refine t_get ‹_› (by walk_at "m") hl ?_
 intro _ _
 walk_at "g"
 refine mu_now ‹_› (by walk_at "m") (by walk_at "m") (by walk_at "k") (by walk_at "k") hr hn ?_
 intro tk s S
 walk_at "g"
 rename_i S
 exact h _ ((S.dropAt (p:=(fr,_)) (by walk_at "k")).perm (by exact ixd [2,2,2] rfl))

theorem U_contains_not {rows:List (Int × Value)}{cs:Value}{kt:Tok}{key:Int}
  (S:St c ((q.ca,InstP 1373 q.cd)::(q.cd,Dm (q.D cs od))::(q.it,DI c rows)::L) s) (H:Frs A L) (hh:A.handled=none) (hr:A.depth<recursionLimit)
  (hl:valueAt rows key=none)
  (h:∀ s',St c ((q.ca,InstP 1373 q.cd)::(q.cd,Dm (q.D cs od))::(q.it,DI c rows)::L) s'→R (.ok (.ret (.bool false))) s') :
  codeAny c.M A (.call (.ref 1303) ⟨[.ref q.ca,.int key kt],[]⟩) R s:=by
 refine f_call fn1303 [(1,.ref q.ca),(11,.int key kt)] S hr (by rfl) (by kernel_rfl!) (by kernel_rfl!) ?_
 intro fr s S
 have F:=fn1303
 have H1:Frs A ((q.ca,InstP 1373 q.cd)::(q.cd,Dm (q.D cs od))::(q.it,DI c rows)::L):=H.sub fun p hp=>.tail _ (.tail _ (.tail _ hp))
 have H2:=H1.deeper (fr:=fr) (l:=[(1,.ref q.ca),(11,.int key kt)].reverse) F
 have ht:=Top.deeper (env:=envF 1303 fd1303 fr) H1
 walk_at "g"
 rename_i S
 refine t_miss S (by walk_at "m") hh hl fun h' e tk x=>?_
 refine hd_new (Nx.of S ⟨_,.head _,trivial⟩ x rfl) H2 ht rfl fun s X=>?_
 refine by_kind X F (by walk_at "i") (by decide) (by rfl) (by rfl) (by rw [isSubtype_type]; kernel_rfl) (by rw [isSubtype_type]; kernel_rfl) (by rw [isSubtype_type]; kernel_rfl) fun s X=>?_
 walk_at "g"
 exact h _ X.St.drop
theorem U_getitem_live {rows data:List (Int × Value)}{cs v:Value}{x:It}{n t:Int}{kt:Tok}{key:Int}
  (S:St c ((q.ca,InstP 1373 q.cd)::(q.cd,Dm (q.D cs od))::(q.dd,DI c data)::(q.it,DI c rows)::(q.tm,InstP 929 q.td)::(q.td,Tmr q.K.clk n t)::(x.a,x.P)::(x.dx,Dm [])::L) s) (hr:A.depth+1<recursionLimit)
  (hn:n≠0) (hl:valueAt rows key=some (.ref x.a)) (hv:valueAt data key=some v) (ht:t<x.e) (hz:rows.length≤1000)
  (h:∀ s',St c ((q.ca,InstP 1373 q.cd)::(q.cd,Dm (q.D cs od))::(q.dd,DI c data)::(q.it,DI c (stored (without rows key) key (.ref x.a)))::(q.tm,InstP 929 q.td)::(q.td,Tmr q.K.clk n t)::(x.a,x.P)::(x.dx,Dm [])::L) s'→R (.ok (.ret v)) s') :
  codeAny c.M A (.call (.ref 1311) ⟨[.ref q.ca,.int key kt],[]⟩) R s:=by
 refine f_call fn1311 [(1,.ref q.ca),(11,.int key kt),(61,.ref 763)] S (by lia) (by rfl) (by kernel_rfl!) (by kernel_rfl!) ?_
 intro fr s S
 have F:=fn1311
 walk_at "g"
 refine t_get ‹_› (by exact ixm 4 rfl) hl ?_
 intro _ _
 walk_at "g"
 refine d_pop ‹_› (by walk_at "r") hl hz ?_
 intro _ _
 walk_at "g"
 have hz2:(without rows key).length≤1000:=Nat.le_trans (List.length_filter_le _ _) hz
 refine d_set ‹_› (by walk_at "r") hz2 ?_
 intro _ _
 walk_at "g"
 refine mu_now ‹_› (by walk_at "m") (by walk_at "m") (by walk_at "k") (by walk_at "k") hr hn ?_
 intro tk s S
 walk_at "g"
 refine ⟨fun _=>?_,fun z=>absurd ht (of_decide_eq_false z)⟩
 walk_at "g"
 refine To.K keep763 ?_
 walk_at "g"
 refine ⟨⟨_,by assumption⟩,U_getitem (q:=q) (St.pick3 ‹_› (by walk_at "k") (by walk_at "k") (by walk_at "k")) hr hv ?_⟩
 intro s S
 walk_at "g"
 exact h _ ((S.dropAt (p:=(fr,_)) (by walk_at "k")).perm (by exact ixd [0,0,0,2] rfl))
end
end
section
theorem neUn {c:Cx}:Nonempty (Un c):=⟨⟨0,0,[(0,fun _=>False)],{ cls:=default,data:=.func default },default,rfl,fun S=>(noSt S).elim,fun S=>(noSt S).elim⟩⟩
theorem neUCfg {c:Cx}:Nonempty (UCfg c):=(@neCk c).elim fun K=>(@neUn c).elim fun U=>⟨⟨K,U,0,0,0,0,0,0,0,default⟩⟩
end
section
section
variable {q:UCfg c}{od:Addr}{env:Env}{fr:Addr}
theorem sp_inU (P:Params):spOk (Mine.K P) 1373 "__contains__" 1303=true:=by kernel_rfl!
theorem sp_getU (P:Params):spOk (Mine.K P) 1373 "__getitem__" 1311=true:=by kernel_rfl!
theorem sp_setU (P:Params):spOk (Mine.K P) 1373 "__setitem__" 1319=true:=by kernel_rfl!
theorem sp_delU (P:Params):spOk (Mine.K P) 1373 "__delitem__" 1327=true:=by kernel_rfl!
theorem its_split {x:It}:∀ {os:List It},x∈os→∃ rest,(itCells os).Perm ((x.a,x.P)::(x.dx,Dm [])::rest)
 | b::bs,h=>by
  rcases List.mem_cons.mp h with rfl | h
  ·exact ⟨_,List.Perm.refl _⟩
  ·obtain ⟨rest,hp⟩:=its_split h
   refine ⟨(b.a,b.P)::(b.dx,Dm [])::rest,((hp.cons _).cons _).trans ?_⟩
   exact ixd [2,2] rfl
noncomputable def HitU (rows:List (Int × Value)) (os:List It) (key t:Int) (b:Bool):Prop :=
 (∃ x,valueAt rows key=some (.ref x.a)∧x∈os∧b=decide (t<x.e))∨(valueAt rows key=none∧b=false)
theorem U_contains {rows:List (Int × Value)}{cs:Value}{os:List It}{n t:Int}{kt:Tok}{key:Int}{b:Bool}
  (S:St c ((q.ca,InstP 1373 q.cd)::(q.cd,Dm (q.D cs od))::(q.it,DI c rows)::(q.tm,InstP 929 q.td)::(q.td,Tmr q.K.clk n t)::(itCells os++L)) s) (hr:A.depth+1<recursionLimit)
  (hn:n≠0) (H:Frs A L) (hh:A.handled=none) (hk:HitU rows os key t b)
  (h:∀ s',St c ((q.ca,InstP 1373 q.cd)::(q.cd,Dm (q.D cs od))::(q.it,DI c rows)::(q.tm,InstP 929 q.td)::(q.td,Tmr q.K.clk n t)::(itCells os++L)) s'→R (.ok (.ret (.bool b))) s') :
  codeAny c.M A (.call (.ref 1303) ⟨[.ref q.ca,.int key kt],[]⟩) R s:=by
 rcases hk with ⟨x,h1,h2,rfl⟩ | ⟨h1,rfl⟩
 ·obtain ⟨rest,hp⟩:=its_split h2
  have P:=((((((hp.append_right L).cons (q.td,Tmr q.K.clk n t)).cons (q.tm,InstP 929 q.td)).cons (q.it,DI c rows)).cons (q.cd,Dm (q.D cs od))).cons (q.ca,InstP 1373 q.cd))
  exact U_contains_there (x:=x) (S.perm P.symm) hr hn h1 fun s S=>h s (S.perm P)
 ·refine U_contains_not (L:=(q.tm,InstP 929 q.td)::(q.td,Tmr q.K.clk n t)::(itCells os++L)) S (H.sub fun p hp=>.tail _ (.tail _ (List.mem_append_right _ hp))) hh (by lia) h1 h
theorem U_item {rows data:List (Int × Value)}{cs v:Value}{os:List It}{x:It}{n t:Int}{kt:Tok}{key:Int}
  (S:St c ((q.ca,InstP 1373 q.cd)::(q.cd,Dm (q.D cs od))::(q.dd,DI c data)::(q.it,DI c rows)::(q.tm,InstP 929 q.td)::(q.td,Tmr q.K.clk n t)::(itCells os++L)) s) (hr:A.depth+1<recursionLimit)
  (hn:n≠0) (h1:valueAt rows key=some (.ref x.a)) (h2:x∈os) (ht:t<x.e) (hv:valueAt data key=some v) (hz:rows.length≤900)
  (h:∀ s',St c ((q.ca,InstP 1373 q.cd)::(q.cd,Dm (q.D cs od))::(q.dd,DI c data)::(q.it,DI c (without rows key++[(key,.ref x.a)]))::(q.tm,InstP 929 q.td)::(q.td,Tmr q.K.clk n t)::(itCells os++L)) s'→R (.ok (.ret v)) s') :
  codeAny c.M A (.call (.ref 1311) ⟨[.ref q.ca,.int key kt],[]⟩) R s:=by
 obtain ⟨rest,hp⟩:=its_split h2
 have P:=fun r=>(((((((hp.append_right L).cons (q.td,Tmr q.K.clk n t)).cons (q.tm,InstP 929 q.td)).cons (q.it,DI c r)).cons (q.dd,DI c data)).cons (q.cd,Dm (q.D cs od))).cons (q.ca,InstP 1373 q.cd))
 refine U_getitem_live (x:=x) (S.perm (P _).symm) hr hn h1 hv ht (by lia) fun s S=>?_
 rw [dl_moved] at S
 exact h s (S.perm (P _))

set_option maxHeartbeats 1000000 in
theorem U_get {rows data:List (Int × Value)}{cs v:Value}{os:List It}{x:It}{n t:Int}{kt:Tok}{key:Int}{dv:Value}
  (S:St c ((q.ca,InstP 1373 q.cd)::(q.cd,Dm (q.D cs od))::(q.dd,DI c data)::(q.it,DI c rows)::(q.tm,InstP 929 q.td)::(q.td,Tmr q.K.clk n t)::(itCells os++L)) s) (hr:A.depth+2<recursionLimit)
  (hn:n≠0) (H:Frs A L) (hh:A.handled=none) (h1:valueAt rows key=some (.ref x.a)) (h2:x∈os) (ht:t<x.e) (hv:valueAt data key=some v) (hz:rows.length≤900)
  (h:∀ s',St c ((q.ca,InstP 1373 q.cd)::(q.cd,Dm (q.D cs od))::(q.dd,DI c data)::(q.it,DI c (without rows key++[(key,.ref x.a)]))::(q.tm,InstP 929 q.td)::(q.td,Tmr q.K.clk n t)::(itCells os++L)) s'→R (.ok (.ret v)) s') :
  codeAny c.M A (.call (.ref 813) ⟨[.ref q.ca,.int key kt,dv],[]⟩) R s:=by
 refine f_call fn813 [(1,.ref q.ca),(11,.int key kt),(26,dv)] S (by lia) (by rfl) (by kernel_rfl!) (by kernel_rfl!) ?_
 intro fr s S
 have F:=fn813
 walk_at "g"
 refine i_in S (by walk_at "m") (by walk_at "m") (by walk_at "m") sp_inU ?_
 have S1:St c ((q.ca,InstP 1373 q.cd)::(q.cd,Dm (q.D cs od))::(q.it,DI c rows)::(q.tm,InstP 929 q.td)::(q.td,Tmr q.K.clk n t)::(itCells os++((fr,Nm [(26,dv),(11,.int key kt),(1,.ref q.ca)])::(q.dd,DI c data)::L))) s:=S.perm (by exact ixe 7 5 [1,1,2,2,2,0] rfl rfl rfl)
 refine U_contains S1 (by rw [depth_deeper]; lia) hn (Frs.deep (l:=[(26,dv),(11,.int key kt),(1,.ref q.ca)]) F H (.head _) fun p hp=>.tail _ (.tail _ hp)) hh (.inl ⟨x,h1,h2,(decide_eq_true ht).symm⟩) fun s S=>?_
 refine ⟨_,rfl,?_⟩
 walk_at "g"
 refine i_get S (by exact ixn 5 0 rfl rfl) (by walk_at "m") (by walk_at "m") sp_getU ?_
 have S1:St c ((q.ca,InstP 1373 q.cd)::(q.cd,Dm (q.D cs od))::(q.dd,DI c data)::(q.it,DI c rows)::(q.tm,InstP 929 q.td)::(q.td,Tmr q.K.clk n t)::(itCells os++((fr,Nm [(26,dv),(11,.int key kt),(1,.ref q.ca)])::L))) s:=S.perm (by exact ixe 5 6 [0,0,4] rfl rfl rfl)
 refine U_item S1 (by rw [depth_in1,depth_deeper]; lia) hn h1 h2 ht hv hz fun s S=>?_
 walk_at "g"
 exact h _ ((S.dropAt (p:=(fr,_)) (by walk_at "k")).perm (by exact .refl _))
theorem U_get_no {rows data:List (Int × Value)}{cs:Value}{os:List It}{n t:Int}{kt:Tok}{key:Int}{dv:Value}
  (S:St c ((q.ca,InstP 1373 q.cd)::(q.cd,Dm (q.D cs od))::(q.dd,DI c data)::(q.it,DI c rows)::(q.tm,InstP 929 q.td)::(q.td,Tmr q.K.clk n t)::(itCells os++L)) s) (hr:A.depth+2<recursionLimit)
  (hn:n≠0) (H:Frs A L) (hh:A.handled=none) (hk:HitU rows os key t false)
  (h:∀ s',St c ((q.ca,InstP 1373 q.cd)::(q.cd,Dm (q.D cs od))::(q.dd,DI c data)::(q.it,DI c rows)::(q.tm,InstP 929 q.td)::(q.td,Tmr q.K.clk n t)::(itCells os++L)) s'→R (.ok (.ret dv)) s') :
  codeAny c.M A (.call (.ref 813) ⟨[.ref q.ca,.int key kt,dv],[]⟩) R s:=by
 refine f_call fn813 [(1,.ref q.ca),(11,.int key kt),(26,dv)] S (by lia) (by rfl) (by kernel_rfl!) (by kernel_rfl!) ?_
 intro fr s S
 have F:=fn813
 walk_at "g"
 refine i_in S (by walk_at "m") (by walk_at "m") (by walk_at "m") sp_inU ?_
 have S1:St c ((q.ca,InstP 1373 q.cd)::(q.cd,Dm (q.D cs od))::(q.it,DI c rows)::(q.tm,InstP 929 q.td)::(q.td,Tmr q.K.clk n t)::(itCells os++((fr,Nm [(26,dv),(11,.int key kt),(1,.ref q.ca)])::(q.dd,DI c data)::L))) s:=S.perm (by exact ixe 7 5 [1,1,2,2,2,0] rfl rfl rfl)
 refine U_contains S1 (by rw [depth_deeper]; lia) hn (Frs.deep (l:=[(26,dv),(11,.int key kt),(1,.ref q.ca)]) F H (.head _) fun p hp=>.tail _ (.tail _ hp)) hh hk fun s S=>?_
 refine ⟨_,rfl,?_⟩
 walk_at "g"
 exact h _ ((S.dropAt (p:=(fr,_)) (by walk_at "k")).perm (by exact ixe 5 6 [0,0,3] rfl rfl rfl))
end
end
section
section
variable {q:UCfg c}{od:Addr}{env:Env}{fr:Addr}
theorem itCells_app:∀ us vs:List It,itCells (us++vs)=itCells us++itCells vs
 | [],_=>rfl
 | u::us,vs=>by
  show (u.a,u.P)::(u.dx,Dm [])::itCells (us++vs)=_
  rw [itCells_app us vs]; rfl
noncomputable def It.gone (x:It):It:={ x with rm:=true }
noncomputable def U_del_live_P (rows data:List (Int × Value)) (us vs:List It) (x:It) (m n t:Int) (mtk kt:Tok) (key:Int):Prop:=∀ (S:St c ((q.ca,InstP 1373 q.cd)::(q.cd,Dm (q.D (.int m mtk) od))::(q.dd,DI c data)::(q.it,DI c rows)::(q.tm,InstP 929 q.td)::(q.td,Tmr q.K.clk n t)::(itCells (us++x::vs)++L)) s) (hr:A.depth+1<recursionLimit) (hn:n≠0) (hn1:n+1≠0) (hl:valueAt rows key=some (.ref x.a)) (hv:(valueAt data key).isSome=true) (ht:t<x.e) (hz:rows.length≤1000) (hzd:data.length≤1000) (h:∀ tk s',St c ((q.ca,InstP 1373 q.cd)::(q.cd,Dm (q.D (.int (m-1) tk) od))::(q.dd,DI c (without data key))::(q.it,DI c (without rows key))::(q.tm,InstP 929 q.td)::(q.td,Tmr q.K.clk n t)::(itCells (us++x.gone::vs)++L)) s'→R (.ok (.ret .none)) s'),codeAny c.M A (.call (.ref 1327) ⟨[.ref q.ca,.int key kt],[]⟩) R s
set_option maxHeartbeats 1000000 in
theorem U_del_live {rows data:List (Int × Value)}{us vs:List It}{x:It}{m n t:Int}{mtk kt:Tok}{key:Int}:@U_del_live_P c L s A R q od rows data us vs x m n t mtk kt key:=by
 revert c L s A R q od rows data us vs x m n t mtk kt key
 walk_at "e5"; intro c L s A R
 walk_at "e9"; intro q od rows data us vs x m n
 walk_at "e2"; intro t mtk
 walk_at "e2"; intro kt key
 intro S hr hn hn1 hl hv ht hz hzd h
 simp only [itCells_app,itCells,List.append_assoc,List.cons_append] at S h
 refine f_call fn1327 [(1,.ref q.ca),(11,.int key kt),(64,.ref 777)] S (by lia) (by rfl) (by kernel_rfl!) (by kernel_rfl!) ?_
 intro fr s S
 have F:=fn1327
 refine x_cons ?_
 refine x_wN ?_
 walk_at "g"
 refine eu_timer S (by walk_at "m") (by walk_at "m") (by rw [depth_deeper]; lia) fun s S=>?_
 refine ⟨_,_,_,_,rfl,S,by exact ixm 5 rfl,by exact ixm 6 rfl,?_⟩
 refine timer_enter_in (St.pick2 S (by walk_at "k") (by walk_at "k")) (by rw [depth_deeper]; lia) hn fun ttk s S=>?_
 walk_at "g"
 refine To.K keep777 ?_
 walk_at "g"
 refine ⟨⟨_,by assumption⟩,U_delitem (q:=q) (od:=od) (St.pick3 ‹_› (by walk_at "k") (by walk_at "k") (by walk_at "k")) (by rw [depth_deeper]; lia) hv hzd ?_⟩
 intro tk s S
 walk_at "g"
 refine timer_exit (n:=n) (St.pick2 S (by walk_at "k") (by walk_at "k")) (by rw [depth_deeper]; lia) fun s S=>?_
 have S:=S.weak (a:=q.td) (P':=Tmr q.K.clk n t) (by walk_at "r") fun o z=>(Tms.pos hn).mp z
 walk_at "g"
 refine d_pop ‹_› (by walk_at "r") hl hz ?_
 intro _ _
 walk_at "g"
 rw [decide_eq_true ht]
 walk_at "g"
 refine Br.f ?_
 walk_at "g"
 rename_i S
 have S:=S.dropAt (p:=(fr,_)) (by walk_at "k")
 exact h _ _ (S.perm (by walk_at "d"))
set_option maxHeartbeats 1000000 in
theorem U_pop {rows data:List (Int × Value)}{v:Value}{us vs:List It}{x:It}{m n t:Int}{mtk kt:Tok}{key:Int}{dv:Value}
  (S:St c ((q.ca,InstP 1373 q.cd)::(q.cd,Dm (q.D (.int m mtk) od))::(q.dd,DI c data)::(q.it,DI c rows)::(q.tm,InstP 929 q.td)::(q.td,Tmr q.K.clk n t)::(itCells (us++x::vs)++L)) s) (hr:A.depth+2<recursionLimit)
  (hn:n≠0) (hn1:n+1≠0) (H:Frs A L) (hh:A.handled=none) (h1:valueAt rows key=some (.ref x.a)) (ht:t<x.e) (hv:valueAt data key=some v) (hz:rows.length≤900) (hz2:data.length≤900)
  (h:∀ tk s',St c ((q.ca,InstP 1373 q.cd)::(q.cd,Dm (q.D (.int (m-1) tk) od))::(q.dd,DI c (without data key))::(q.it,DI c (without rows key))::(q.tm,InstP 929 q.td)::(q.td,Tmr q.K.clk n t)::(itCells (us++x.gone::vs)++L)) s'→R (.ok (.ret v)) s') :
  codeAny c.M A (.call (.ref 821) ⟨[.ref q.ca,.int key kt,dv],[]⟩) R s:=by
 have h2:x∈us++x::vs:=List.mem_append_right _ (.head _)
 refine f_call fn821 [(1,.ref q.ca),(11,.int key kt),(26,dv)] S (by lia) (by rfl) (by kernel_rfl!) (by kernel_rfl!) ?_
 intro fr s S
 have F:=fn821
 walk_at "g"
 refine i_in S (by walk_at "m") (by walk_at "m") (by walk_at "m") sp_inU ?_
 have S1:St c ((q.ca,InstP 1373 q.cd)::(q.cd,Dm (q.D (.int m mtk) od))::(q.it,DI c rows)::(q.tm,InstP 929 q.td)::(q.td,Tmr q.K.clk n t)::(itCells (us++x::vs)++((fr,Nm [(26,dv),(11,.int key kt),(1,.ref q.ca)])::(q.dd,DI c data)::L))) s:=S.perm (by exact ixe 7 5 [1,1,2,2,2,0] rfl rfl rfl)
 refine U_contains S1 (by rw [depth_deeper]; lia) hn (Frs.deep (l:=[(26,dv),(11,.int key kt),(1,.ref q.ca)]) F H (.head _) fun p hp=>.tail _ (.tail _ hp)) hh (.inl ⟨x,h1,h2,(decide_eq_true ht).symm⟩) fun s S=>?_
 refine ⟨_,rfl,?_⟩
 walk_at "g"
 refine i_get S (by exact ixn 5 0 rfl rfl) (by walk_at "m") (by walk_at "m") sp_getU ?_
 have S1:St c ((q.ca,InstP 1373 q.cd)::(q.cd,Dm (q.D (.int m mtk) od))::(q.dd,DI c data)::(q.it,DI c rows)::(q.tm,InstP 929 q.td)::(q.td,Tmr q.K.clk n t)::(itCells (us++x::vs)++((fr,Nm [(26,dv),(11,.int key kt),(1,.ref q.ca)])::L))) s:=S.perm (by exact ixe 5 6 [0,0,4] rfl rfl rfl)
 refine U_item S1 (by rw [depth_in1,depth_deeper]; lia) hn h1 h2 ht hv hz fun s S=>?_
 walk_at "g"
 have hzl:(without rows key++[(key,Value.ref x.a)]).length≤1000:=by
  have:(without rows key).length≤rows.length:=List.length_filter_le _ _
  rw [List.length_append]; simp only [List.length_cons,List.length_nil]; lia
 refine i_del ‹_› (by walk_at "m") (by walk_at "m") sp_delU ?_
 refine U_del_live (q:=q) (St.pick6G ‹_› (by walk_at "k") (by walk_at "k") (by walk_at "k") (by walk_at "k") (by walk_at "k") (by walk_at "k") (by walk_at "K")) (by rw [depth_deeper]; lia) hn hn1 (dl_at _ _ _) (by rw [hv]; rfl) ht hzl (by lia) fun tk s S=>?_
 rw [dl_back] at S
 walk_at "g"
 exact h tk _ ((S.dropAt (p:=(fr,_)) (by walk_at "k")).perm (by exact .refl _))
theorem U_pop_no {rows data:List (Int × Value)}{cs:Value}{os:List It}{n t:Int}{kt dtk:Tok}{key dv:Int}
  (S:St c ((q.ca,InstP 1373 q.cd)::(q.cd,Dm (q.D cs od))::(q.dd,DI c data)::(q.it,DI c rows)::(q.tm,InstP 929 q.td)::(q.td,Tmr q.K.clk n t)::(itCells os++L)) s) (hr:A.depth+2<recursionLimit)
  (hn:n≠0) (H:Frs A L) (hh:A.handled=none) (hk:HitU rows os key t false)
  (h:∀ s',St c ((q.ca,InstP 1373 q.cd)::(q.cd,Dm (q.D cs od))::(q.dd,DI c data)::(q.it,DI c rows)::(q.tm,InstP 929 q.td)::(q.td,Tmr q.K.clk n t)::(itCells os++L)) s'→R (.ok (.ret (.int dv dtk))) s') :
  codeAny c.M A (.call (.ref 821) ⟨[.ref q.ca,.int key kt,.int dv dtk],[]⟩) R s:=by
 refine f_call fn821 [(1,.ref q.ca),(11,.int key kt),(26,.int dv dtk)] S (by lia) (by rfl) (by kernel_rfl!) (by kernel_rfl!) ?_
 intro fr s S
 have F:=fn821
 walk_at "g"
 refine i_in S (by walk_at "m") (by walk_at "m") (by walk_at "m") sp_inU ?_
 have S1:St c ((q.ca,InstP 1373 q.cd)::(q.cd,Dm (q.D cs od))::(q.it,DI c rows)::(q.tm,InstP 929 q.td)::(q.td,Tmr q.K.clk n t)::(itCells os++((fr,Nm [(26,.int dv dtk),(11,.int key kt),(1,.ref q.ca)])::(q.dd,DI c data)::L))) s:=S.perm (by exact ixe 7 5 [1,1,2,2,2,0] rfl rfl rfl)
 refine U_contains S1 (by rw [depth_deeper]; lia) hn (Frs.deep (l:=[(26,.int dv dtk),(11,.int key kt),(1,.ref q.ca)]) F H (.head _) fun p hp=>.tail _ (.tail _ hp)) hh hk fun s S=>?_
 refine ⟨_,rfl,?_⟩
 walk_at "g"
 refine x_is_ir ?_
 walk_at "g"
 rename_i S
 exact h _ ((S.dropAt (p:=(fr,_)) (by walk_at "k")).perm (by exact ixe 5 6 [0,0,3] rfl rfl rfl))
set_option maxHeartbeats 1000000 in
theorem U_setdef {rows data:List (Int × Value)}{v:Value}{os:List It}{x:It}{cs:Value}{n t:Int}{kt:Tok}{key:Int}{dv:Value}
  (S:St c ((q.ca,InstP 1373 q.cd)::(q.cd,Dm (q.D cs od))::(q.dd,DI c data)::(q.it,DI c rows)::(q.tm,InstP 929 q.td)::(q.td,Tmr q.K.clk n t)::(itCells os++L)) s) (hr:A.depth+2<recursionLimit)
  (hn:n≠0) (H:Frs A L) (hh:A.handled=none) (h1:valueAt rows key=some (.ref x.a)) (h2:x∈os) (ht:t<x.e) (hv:valueAt data key=some v) (hz:rows.length≤900)
  (h:∀ s',St c ((q.ca,InstP 1373 q.cd)::(q.cd,Dm (q.D cs od))::(q.dd,DI c data)::(q.it,DI c (without rows key++[(key,.ref x.a)]))::(q.tm,InstP 929 q.td)::(q.td,Tmr q.K.clk n t)::(itCells os++L)) s'→R (.ok (.ret v)) s') :
  codeAny c.M A (.call (.ref 829) ⟨[.ref q.ca,.int key kt,dv],[]⟩) R s:=by
 refine f_call fn829 [(1,.ref q.ca),(11,.int key kt),(26,dv)] S (by lia) (by rfl) (by kernel_rfl!) (by kernel_rfl!) ?_
 intro fr s S
 have F:=fn829
 walk_at "g"
 refine i_in S (by walk_at "m") (by walk_at "m") (by walk_at "m") sp_inU ?_
 have S1:St c ((q.ca,InstP 1373 q.cd)::(q.cd,Dm (q.D cs od))::(q.it,DI c rows)::(q.tm,InstP 929 q.td)::(q.td,Tmr q.K.clk n t)::(itCells os++((fr,Nm [(26,dv),(11,.int key kt),(1,.ref q.ca)])::(q.dd,DI c data)::L))) s:=S.perm (by exact ixe 7 5 [1,1,2,2,2,0] rfl rfl rfl)
 refine U_contains S1 (by rw [depth_deeper]; lia) hn (Frs.deep (l:=[(26,dv),(11,.int key kt),(1,.ref q.ca)]) F H (.head _) fun p hp=>.tail _ (.tail _ hp)) hh (.inl ⟨x,h1,h2,(decide_eq_true ht).symm⟩) fun s S=>?_
 refine ⟨_,rfl,?_⟩
 walk_at "g"
 refine i_get S (by exact ixn 5 0 rfl rfl) (by walk_at "m") (by walk_at "m") sp_getU ?_
 have S1:St c ((q.ca,InstP 1373 q.cd)::(q.cd,Dm (q.D cs od))::(q.dd,DI c data)::(q.it,DI c rows)::(q.tm,InstP 929 q.td)::(q.td,Tmr q.K.clk n t)::(itCells os++((fr,Nm [(26,dv),(11,.int key kt),(1,.ref q.ca)])::L))) s:=S.perm (by exact ixe 5 6 [0,0,4] rfl rfl rfl)
 refine U_item S1 (by rw [depth_in1,depth_deeper]; lia) hn h1 h2 ht hv hz fun s S=>?_
 walk_at "g"
 rename_i S
 exact h _ ((S.dropAt (p:=(fr,_)) (by walk_at "k")).perm (by exact .refl _))
end
end
section
section
variable {q:UCfg c}{od:Addr}{env:Env}{fr:Addr}
noncomputable def tail1348:List Stmt:=(bodyOf fd1348).tail
theorem itCells_has {x:It}{os:List It} (h:x∈os):Has x (itCells os):=by
 obtain ⟨rest,hp⟩:=its_split h
 exact ⟨hp.symm.subset (.head _),hp.symm.subset (.tail _ (.head _))⟩
theorem l_truthy {a:Addr}{xs:List Value}{Q:Bool→Shared→Prop} (S:St c L s) (h1:(a,LiP xs)∈L) (hz:xs.length≤1000) (h:∀ s',St c L s'→Q (!xs.isEmpty) s'):wpAny c.M A (truthy (.ref a)) Q E s:=by
 refine wpAny_truthy_list (items:=xs.toArray) (S.plist h1).isList (by rw [List.size_toArray]; lia) ?_
 rw [List.isEmpty_toArray]
 exact h _ (S.like rfl rfl)
theorem irefs_len (os:List It):(irefs os).length=os.length:=by unfold irefs; rw [List.length_map]
theorem x_muli {a b:Int}{t u:Tok}{Q:Value→Shared→Prop} (S:St c L s) (hm:IntMulOk a b) (h:∀ tk s',St c L s'→Q (.int (a*b) tk) s'):wpAny c.M A (binaryOp .Mult (.int a t) (.int b u)) Q E s :=
 PySem.P.mul_int (h _ _ (S.like rfl rfl)) hm
theorem itCells_perm {os os':List It} (h:os.Perm os'):(itCells os).Perm (itCells os'):=by
 induction h with
 | nil=>exact .refl _
 | cons x _ ih=>exact (ih.cons _).cons _
 | swap x y l =>
  show ((y.a,y.P)::(y.dx,Dm [])::(x.a,x.P)::(x.dx,Dm [])::itCells l).Perm ((x.a,x.P)::(x.dx,Dm [])::(y.a,y.P)::(y.dx,Dm [])::itCells l)
  exact (List.perm_append_comm (l₁:=[(y.a,y.P),(y.dx,Dm [])]) (l₂:=[(x.a,x.P),(x.dx,Dm [])])).append_right (itCells l)
 | trans _ _ h1 h2=>exact h1.trans h2
noncomputable def lives (os:List It):List It:=os.filter fun x=>!x.rm
theorem St.lives {os:List It}{L0:List Cell} (S:St c (itCells os++L0) s):St c (itCells (lives os)++L0) s:=by
 have hp:os.Perm (os.filter (fun x=>x.rm)++Mine.lives os):=by
  have:=List.filter_append_perm (fun x:It=>x.rm) os
  exact this.symm
 have S1:=S.perm ((itCells_perm hp).append_right L0).symm
 rw [itCells_app,List.append_assoc] at S1
 exact S1.dropG
theorem irefs_of {os:List It}{i:Nat}{v:Value} (h:(irefs os)[i]? = some v):∃ x,os[i]? = some x∧v=.ref x.a∧x∈os:=by
 unfold irefs at h
 rw [List.getElem?_map] at h
 cases e:os[i]? with
 | none=>rw [e] at h; cases h
 | some x=>rw [e] at h; cases h; exact ⟨x,rfl,rfl,List.mem_of_getElem? e⟩
theorem lives_take {os:List It}{i:Nat}{x:It} (h:os[i]? = some x):irefs (Mine.lives (os.take (i+1)))=irefs (Mine.lives (os.take i))++(if x.rm then [] else [.ref x.a]):=by
 unfold Mine.lives
 rw [take_succ_filter _ os i x h]
 unfold irefs
 rw [List.map_append]
 cases x.rm <;> simp
theorem Has.app {x:It}{L1 L2:List Cell} (h:Has x L1):Has x (L1++L2):=⟨List.mem_append_left _ h.1,List.mem_append_left _ h.2⟩
noncomputable def Cl (os os':List It):Prop:=os'=os∨os'.Perm (lives os)
noncomputable def X_clean_P (rows data:List (Int × Value)) (os:List It) (cs:Value) (t:Int) (ttk:Tok):Prop:=∀ (S:St c ((fr, Nm [(35, .int t ttk), (1, .ref q.ca)]) :: (q.ca, InstP 1373 q.cd) :: (q.cd, Dm (q.D cs od)) :: (q.dd, DI c data) :: (q.it, DI c rows) :: (od, LiP (irefs os)) :: (itCells os ++ L)) s) (hr:A.depth+1<recursionLimit) (hu:A.units+10<cLine) (hh:A.handled=none) (hz:rows.length≤900) (hz2:os.length≤800) (hp:Hp os.length 0 (fOf os)) (h:∀ od' os' s', Cl os os' → Hp os'.length 0 (fOf os') → St c ((fr, Nm [(85, .ref od'), (80, .ref q.it), (35, .int t ttk), (1, .ref q.ca)]) :: (q.ca, InstP 1373 q.cd) :: (q.cd, Dm (q.D cs od')) :: (q.dd, DI c data) :: (q.it, DI c rows) :: (od', LiP (irefs os')) :: (itCells os' ++ L)) s' →
   wpAny c.M (A.deeper (envF 1348 fd1348 fr)) (execs (tail1348.drop 3) (envF 1348 fd1348 fr)) (Back R) (Fly c A (envF 1348 fd1348 fr) R) s'),wpAny c.M (A.deeper (envF 1348 fd1348 fr)) (execs tail1348 (envF 1348 fd1348 fr)) (Back R) (Fly c A (envF 1348 fd1348 fr) R) s
set_option maxHeartbeats 2000000 in
theorem X_clean {rows data:List (Int × Value)}{os:List It}{cs:Value}{t:Int}{ttk:Tok}:@X_clean_P c L s A R q od fr rows data os cs t ttk:=by
 revert c L s A R q od fr rows data os cs t ttk
 walk_at "e5"; intro c L s A R
 walk_at "e9"; intro q od fr rows data os cs t ttk
 intro S hr hu hh hz hz2 hp h
 have F:=fn1348
 refine x_cut (fun s=>St c ((fr,Nm [(80,.ref q.it),(35,.int t ttk),(1,.ref q.ca)])::(q.ca,InstP 1373 q.cd)::(q.cd,Dm (q.D cs od))::(q.dd,DI c data)::(q.it,DI c rows)::(od,LiP (irefs os))::(itCells os++L)) s) ?_ fun s S=>?_
 ·walk_at "g"
  rename_i S
  exact Nxt.ok S
 refine x_cut (fun s=>St c ((fr,Nm [(85,.ref od),(80,.ref q.it),(35,.int t ttk),(1,.ref q.ca)])::(q.ca,InstP 1373 q.cd)::(q.cd,Dm (q.D cs od))::(q.dd,DI c data)::(q.it,DI c rows)::(od,LiP (irefs os))::(itCells os++L)) s) ?_ fun s S=>?_
 ·walk_at "g"
  rename_i S
  exact Nxt.ok S
 refine x_cut (fun s=>∃ od' os',Cl os os'∧Hp os'.length 0 (fOf os')∧St c ((fr,Nm [(85,.ref od'),(80,.ref q.it),(35,.int t ttk),(1,.ref q.ca)])::(q.ca,InstP 1373 q.cd)::(q.cd,Dm (q.D cs od'))::(q.dd,DI c data)::(q.it,DI c rows)::(od',LiP (irefs os'))::(itCells os'++L)) s) ?_ fun s S=>?_
 ·walk_at "g"
  refine l_len ‹_› (by exact ixm 5 rfl) (by rw [irefs_len]; lia) fun tk1 s S=>?_
  walk_at "g"
  refine d_len ‹_› (by exact ixm 4 rfl) (by lia) fun tk2 s S=>?_
  walk_at "g"
  rename_i S
  refine x_muli S (IntMulOk.of_right (by decide)) fun tk3 s S=>?_
  walk_at "g"
  by_cases hc:(rows.length:Int)*2<((irefs os).length:Int)
  ·rw [decide_eq_true hc]
   walk_at "g"
   rename_i S
   refine x_listcomp (kx:=79) ix79 (cl:=[]) (by rfl) (by decide) (by rfl) (by decide) (by rfl) (fun _=>rfl) hh ?_
   walk_at "g"
   have S1:St c ((od,LiP (irefs os))::((fr,Nm [(85,.ref od),(80,.ref q.it),(35,.int t ttk),(1,.ref q.ca)])::(q.ca,InstP 1373 q.cd)::(q.cd,Dm (q.D cs od))::(q.dd,DI c data)::(q.it,DI c rows)::(itCells os++L))) _:=S.perm (by exact ixd [5] rfl)
   refine ⟨od,irefs os,_,rfl,S1,by rw [irefs_len]; lia,fun i ys X=>X=[]∧ys=irefs (lives (os.take i)),⟨rfl,rfl⟩,?_,?_,?_⟩
   ·rintro i ys X ⟨_,rfl⟩
    rw [irefs_len]
    exact Nat.le_trans (List.length_filter_le _ _) (List.length_take_le _ _)
   ·rintro i v ys X C I D s' E' hv ⟨rfl,rfl⟩ S
    obtain ⟨x,h1,rfl,h2⟩:=irefs_of hv
    obtain ⟨m1,m2⟩:=itCells_has h2
    have tf:=lives_take h1
    walk_at "g"
    rename_i S
    constructor
    ·intro hb
     have hb:x.rm=false:=by simpa using hb
     rw [hb,if_neg (by decide)] at tf
     walk_at "g"
     exact ⟨[],⟨rfl,tf.symm⟩,S⟩
    ·intro hb
     have hb:x.rm=true:=by simpa using hb
     rw [hb,if_pos rfl,List.append_nil] at tf
     exact ⟨⟨rfl,tf.symm⟩,S⟩
   ·rintro D ys X s' ⟨rfl,rfl⟩ S
    have e:os.take (irefs os).length=os:=by rw [irefs_len,List.take_length]
    rw [e] at S
    walk_at "g"
    rename_i S
    have S1:St c ((D,LiP (irefs (lives os)))::((fr,Nm [(85,.ref D),(85,.ref od),(80,.ref q.it),(35,.int t ttk),(1,.ref q.ca)])::(q.ca,InstP 1373 q.cd)::(q.cd,Dm (q.D cs D))::(q.dd,DI c data)::(q.it,DI c rows)::(od,LiP (irefs os))::(itCells os++L))) _:=S.perm (by walk_at "d")
    have sub:∀ x∈lives os,x∈os:=fun x hx=>(List.mem_filter.mp hx).1
    refine x_code (h_heapify S1 (by rw [depth_deeper]; exact hr) (by show A.units+3+1<_; lia) (.head _) (fun x hx=>.cons (.cons (.cons (.cons (.cons (.cons (.app (itCells_has (sub x hx)))))))) ) (Nat.le_trans (List.length_filter_le _ _) hz2) fun hs' s' hp' hH S=>?_)
    walk_at "g"
    refine Nxt.ok ⟨D,hs',.inr hp',hH,?_⟩
    have S:=S.dropAt (p:=(od,_)) (by walk_at "k")
    have S:=S.pick (p:=(fr,_)) (by walk_at "k")
    have S:=S.weak (P':=Nm [(85,.ref D),(80,.ref q.it),(35,.int t ttk),(1,.ref q.ca)]) .here (fun o z=>Nm.norm0 z)
    have S:=(S.pickG (G:=itCells os) (by walk_at "K")).lives
    have S:=S.perm ((itCells_perm hp').append_right _)
    exact S.perm (by exact ixe 0 6 [0,1,1,1,1] rfl rfl rfl)
  ·rw [decide_eq_false hc]
   walk_at "g"
   exact Nxt.ok ⟨od,os,.inl rfl,hp,S⟩
 ·obtain ⟨od',os',h1,h2,S⟩:=S
  exact h od' os' s h1 h2 S
end
end
section
section
variable {q:UCfg c}{od:Addr}{env:Env}{fr:Addr}
theorem hp_min {n:Nat}{f:Nat→Int} (h:Hp n 0 f):∀ i,i<n→f 0≤f i:=by
 intro i
 induction i using Nat.strongRecOn with
 | _ i ih =>
 intro hi
 cases i with
 | zero=>exact Int.le_refl _
 | succ i =>
  have h1:=h (i+1) (by lia) hi (by lia)
  have h2:=ih ((i+1-1) / 2) (by lia) (by lia)
  lia
theorem hp_head {x:It}{hs:List It} (h:Hp (hs.length+1) 0 (fOf (x::hs))):∀ y∈x::hs,x.e≤y.e:=by
 intro y hy
 obtain ⟨i,hi,e⟩:=List.mem_iff_getElem.mp hy
 have h1:=hp_min h i (by simpa using hi)
 have e1:fOf (x::hs) 0=x.e:=fOf_eq rfl
 have e2:fOf (x::hs) i=y.e:=fOf_eq (by rw [List.getElem?_eq_getElem hi,e])
 rw [e1,e2] at h1
 exact h1
theorem valueAt_without {l:List (Int × Value)}{k k':Int} (h:k'≠k):valueAt (without l k) k'=valueAt l k':=by
 unfold valueAt without
 congr 1
 induction l with
 | nil=>rfl
 | cons p l ih =>
  by_cases h1:p.1=k
  ·have h2:¬ p.1=k':=fun z=>h (z.symm.trans h1)
   rw [List.filter_cons_of_neg (by simpa using h1),List.find?_cons_of_neg (by simpa using h2)]; exact ih
  ·rw [List.filter_cons_of_pos (by simpa using h1)]
   by_cases h2:p.1=k'
   ·rw [List.find?_cons_of_pos (by simpa using h2),List.find?_cons_of_pos (by simpa using h2)]
   ·rw [List.find?_cons_of_neg (by simpa using h2),List.find?_cons_of_neg (by simpa using h2)]; exact ih
noncomputable def LiveOk (os:List It) (rows data:List (Int × Value)) (vf:Int→Value):Prop :=
 (∀ x∈os,x.rm=false→valueAt rows x.k=some (.ref x.a)∧valueAt data x.k=some (vf x.k))∧((lives os).map It.k).Nodup
theorem LiveOk.perm {os os':List It}{rows data:List (Int × Value)}{vf:Int→Value} (h:LiveOk os rows data vf) (p:os'.Perm os):LiveOk os' rows data vf :=
 ⟨fun x hx=>h.1 x (p.subset hx),((p.filter _).map _).nodup_iff.mpr h.2⟩
theorem LiveOk.gone {x:It}{os:List It}{rows data:List (Int × Value)}{vf:Int→Value} (h:LiveOk (x::os) rows data vf) (hr:x.rm=true):LiveOk os rows data vf:=by
 refine ⟨fun y hy=>h.1 y (.tail _ hy),?_⟩
 have h2:=h.2
 unfold lives at h2 ⊢
 rwa [List.filter_cons_of_neg (by simp [hr])] at h2
theorem LiveOk.due {x:It}{os:List It}{rows data:List (Int × Value)}{vf:Int→Value} (h:LiveOk (x::os) rows data vf) (hr:x.rm=false):LiveOk os (without rows x.k) (without data x.k) vf:=by
 have h2:=h.2
 unfold lives at h2
 rw [List.filter_cons_of_pos (by simp [hr]),List.map_cons,List.nodup_cons] at h2
 refine ⟨fun y hy hy2=>?_,h2.2⟩
 have hne:y.k≠x.k:=fun z=>h2.1 (List.mem_map.mpr ⟨y,List.mem_filter.mpr ⟨hy,by simp [hy2]⟩,z⟩)
 rw [valueAt_without hne,valueAt_without hne]
 exact h.1 y (.tail _ hy) hy2
theorem l_item {a:Addr}{xs:List Value}{v:Value}{i:Nat}{t:Tok}{value slice:Expr}{Q:Value→Shared→Prop} (S:St c L s) (h1:(a,LiP xs)∈L) (hx:xs[i]? = some v) (hz:xs.length≤1000) (h:Q v s)
  (hs:autoParam (subscripted slice false (.ref a) (.int i t)=operate [.ref a,.int i t] (getItem (.ref a) (.int i t))) aW):wpAny c.M A (subscriptTail value slice (.ref a) (.int i t)) Q E s:=by
 have hlt:i<xs.length:=(List.getElem?_eq_some_iff.mp hx).1
 exact item_listR (items:=xs.toArray) (S.plist h1).isList (by lia) (by lia) (by simpa using hx) h hs
structure Pops (t:Int) (os0:List It) (rows0 data0:List (Int × Value)) (m0:Int) (vf:Int→Value) (gone os:List It) (rows data:List (Int × Value)) (m:Int):Prop where
 perm:(gone++os).Perm os0
 due:∀ x∈gone,x.rm=true∨¬ t<x.e
 rows:rows=(lives gone).foldl (fun d x=>without d x.k) rows0
 data:data=(lives gone).foldl (fun d x=>without d x.k) data0
 m:m=m0-(lives gone).length
noncomputable def told_of (vf:Int→Value) (gone:List It):List (Value × Value):=(lives gone).map fun x=>(.int x.k x.kt,vf x.k)
theorem lives_snoc_rm {gone:List It}{x:It} (h:x.rm=true):lives (gone++[x])=lives gone:=by unfold lives; simp [h]
theorem lives_snoc {gone:List It}{x:It} (h:x.rm=false):lives (gone++[x])=lives gone++[x]:=by unfold lives; simp [h]
theorem Pops.rm {t:Int}{os0:List It}{rows0 data0:List (Int × Value)}{m0:Int}{vf:Int→Value}{gone os os':List It}{x:It}{rows data:List (Int × Value)}{m:Int} (h:Pops t os0 rows0 data0 m0 vf gone (x::os) rows data m) (hr:x.rm=true) (hp:os'.Perm os) :
  Pops t os0 rows0 data0 m0 vf (gone++[x]) os' rows data m:=by
 refine ⟨?_,fun y hy=>?_,by rw [lives_snoc_rm hr]; exact h.rows,by rw [lives_snoc_rm hr]; exact h.data,by rw [lives_snoc_rm hr]; exact h.m⟩
 ·rw [List.append_assoc]
  exact ((hp.cons x).append_left gone).trans h.perm
 ·rcases List.mem_append.mp hy with hy | hy
  ·exact h.due y hy
  ·rw [List.mem_singleton] at hy; subst hy; exact .inl hr
theorem Pops.pop {t:Int}{os0:List It}{rows0 data0:List (Int × Value)}{m0:Int}{vf:Int→Value}{gone os os':List It}{x:It}{rows data:List (Int × Value)}{m:Int} (h:Pops t os0 rows0 data0 m0 vf gone (x::os) rows data m) (hr:x.rm=false) (ht:¬ t<x.e) (hp:os'.Perm os) :
  Pops t os0 rows0 data0 m0 vf (gone++[x]) os' (without rows x.k) (without data x.k) (m-1):=by
 refine ⟨?_,fun y hy=>?_,?_,?_,?_⟩
 ·rw [List.append_assoc]
  exact ((hp.cons x).append_left gone).trans h.perm
 ·rcases List.mem_append.mp hy with hy | hy
  ·exact h.due y hy
  ·rw [List.mem_singleton] at hy; subst hy; exact .inr ht
 ·rw [lives_snoc hr,List.foldl_append,← h.rows]; rfl
 ·rw [lives_snoc hr,List.foldl_append,← h.data]; rfl
 ·rw [lives_snoc hr,List.length_append,h.m]; simp; lia
end
end
section
section
variable {q:UCfg c}{od:Addr}{env:Env}{fr:Addr}
noncomputable def Sq (P:Shared→Prop) (Q:Flow→Shared→Prop) (f:Flow) (s:Shared):Prop:=match f with | .next=>P s | f=>Q f s
theorem Sq.next {P:Shared→Prop}{Q:Flow→Shared→Prop} (h:P s):Sq P Q .next s:=h
theorem Sq.ret {P:Shared→Prop}{Q:Flow→Shared→Prop}{v:Value} (h:Q (.ret v) s):Sq P Q (.ret v) s:=h
theorem x_cutR {st:Stmt}{rest:List Stmt}{Q:Flow→Shared→Prop} (P:Shared→Prop) (h:wpAny c.M A (exec st env) (Sq P Q) E s) (h2:∀ s',P s'→wpAny c.M A (execs rest env) Q E s'):wpAny c.M A (execs (st::rest) env) Q E s :=
 x_cons (wpAny_mono h (fun f s' z=>by cases f <;> first | exact h2 _ z | exact z) fun _ _ z=>z)
noncomputable def X_pops_P (rows0 data0:List (Int × Value)) (os0:List It) (m0:Int) (mtk:Tok) (t:Int) (ttk:Tok) (vf:Int → Value):Prop:=∀ (S:St c ((fr, Nm [(85, .ref od), (80, .ref q.it), (35, .int t ttk), (1, .ref q.ca)]) :: (q.ca, InstP 1373 q.cd) :: (q.cd, Dm (q.D (.int m0 mtk) od)) :: (q.dd, DI c data0) :: (q.it, DI c rows0) :: (od, LiP (irefs os0)) :: (itCells os0 ++ L)) s) (hr:A.depth+2<recursionLimit) (hu:A.units+10<cLine) (hz:rows0.length≤900) (hzd:data0.length≤900) (hz2:os0.length≤800) (hp:Hp os0.length 0 (fOf os0)) (hl:LiveOk os0 rows0 data0 vf) (h:∀ xl tk gone os (told:List (Addr × Value × Value)) rows data m s', Pops t os0 rows0 data0 m0 vf gone os rows data m → Hp os.length 0 (fOf os) → LiveOk os rows data vf → (∀ x ∈ os, t<x.e) → told.map (·.2)=told_of vf gone →
   St c ((xl,LiP (told.map fun x=>.ref x.1))::(told.map (fun x=>(x.1,TuP [x.2.1,x.2.2]))++((q.ca,InstP 1373 q.cd)::(q.cd,Dm (q.D (.int m tk) od))::(q.dd,DI c data)::(q.it,DI c rows)::(od,LiP (irefs os))::(itCells os++L)))) s'→R (.ok (.ret (.ref xl))) s'),wpAny c.M (A.deeper (envF 1348 fd1348 fr)) (execs (tail1348.drop 3) (envF 1348 fd1348 fr)) (Back R) (Fly c A (envF 1348 fd1348 fr) R) s
set_option maxHeartbeats 4000000 in
theorem X_pops {rows0 data0:List (Int × Value)}{os0:List It}{m0:Int}{mtk:Tok}{t:Int}{ttk:Tok}{vf:Int→Value}:@X_pops_P c L s A R q od fr rows0 data0 os0 m0 mtk t ttk vf:=by
 revert c L s A R q od fr rows0 data0 os0 m0 mtk t ttk vf
 walk_at "e5"; intro c L s A R
 walk_at "e9"; intro q od fr rows0 data0 os0 m0 mtk t
 walk_at "e2"; intro ttk vf
 intro S hr hu hz hzd hz2 hp hl h
 have F:=fn1348
 refine x_cutR (fun s=>St c ((fr,Nm [(85,.ref od),(80,.ref q.it),(35,.int t ttk),(1,.ref q.ca)])::(q.ca,InstP 1373 q.cd)::(q.cd,Dm (q.D (.int m0 mtk) od))::(q.dd,DI c data0)::(q.it,DI c rows0)::(od,LiP (irefs os0))::(itCells os0++L)) s) ?_ fun s S=>?_
 ·have early:(∀ x∈os0,t<x.e)→∀ xl s',St c ((xl,LiP [])::(fr,Nm [(85,.ref od),(80,.ref q.it),(35,.int t ttk),(1,.ref q.ca)])::(q.ca,InstP 1373 q.cd)::(q.cd,Dm (q.D (.int m0 mtk) od))::(q.dd,DI c data0)::(q.it,DI c rows0)::(od,LiP (irefs os0))::(itCells os0++L)) s'→R (.ok (.ret (.ref xl))) s':=by
   intro hall xl s' S
   refine h xl mtk [] os0 [] rows0 data0 m0 s' ⟨.refl _,(fun _ hx=>nomatch hx),rfl,rfl,by simp [lives]⟩ hp hl hall rfl ?_
   have S:=S.dropAt (p:=(fr,_)) (by walk_at "k")
   exact S
  cases os0 with
  | nil =>
   walk_at "g"
   refine l_truthy ‹_› (xs:=irefs []) (by exact ixm 5 rfl) (by decide) fun s S=>?_
   refine Br.t ?_
   walk_at "g"
   rename_i S
   refine Sq.ret ?_
   walk_at "g"
   exact early (fun _ hx=>nomatch hx) _ _ S
  | cons x hs =>
   simp only [itCells,List.cons_append] at S
   walk_at "g"
   refine l_truthy ‹_› (xs:=irefs (x::hs)) (by exact ixm 5 rfl) (by rw [irefs_len]; lia) fun s S=>?_
   refine Br.f ?_
   walk_at "g"
   refine x_attr (by rfl) ?_
   walk_at "g"
   rename_i S
   refine l_item S (xs:=irefs (x::hs)) (v:=.ref x.a) (by exact ixm 5 rfl) rfl (by rw [irefs_len]; lia) ?_
   walk_at "g"
   cases hrm:x.rm with
   | true =>
    refine Br.f ?_
    walk_at "g"
    rename_i S
    refine Sq.next ?_
    exact S
   | false =>
    refine Br.t ?_
    walk_at "g"
    refine x_attr (by rfl) ?_
    walk_at "g"
    rename_i S
    refine l_item S (xs:=irefs (x::hs)) (v:=.ref x.a) (by exact ixm 5 rfl) rfl (by rw [irefs_len]; lia) ?_
    walk_at "g"
    by_cases ht:t<x.e
    ·rw [decide_eq_true ht]
     walk_at "g"
     rename_i S
     refine Sq.ret ?_
     walk_at "g"
     exact early (fun y hy=>Int.lt_of_lt_of_le ht (hp_head hp y hy)) _ _ (S.perm (by walk_at "d"))
    ·rw [decide_eq_false ht]
     walk_at "g"
     rename_i S
     refine Sq.next ?_
     exact S
 ·walk_at "g"
  refine g_cls ‹_› cls_delitem fun s S=>?_
  walk_at "g"
  refine g_cls ‹_› cls_getitem fun s S=>?_
  walk_at "g"
  rename_i s' S
  obtain ⟨xl,S⟩ : ∃ xl,St c ((xl,LiP [])::(fr,Nm [(61,.ref 763),(64,.ref 777),(66,.ref xl),(85,.ref od),(80,.ref q.it),(35,.int t ttk),(1,.ref q.ca)])::(q.ca,InstP 1373 q.cd)::(q.cd,Dm (q.D (.int m0 mtk) od))::(q.dd,DI c data0)::(q.it,DI c rows0)::(od,LiP (irefs os0))::(itCells os0++L)) s':=⟨_,S⟩
  refine x_while (fun n s=>∃ (os gone:List It) (told:List (Addr × Value × Value)) (rows data:List (Int × Value)) (m:Int) (tk:Tok) (W:List (Nat × Value)),n=os.length∧Pops t os0 rows0 data0 m0 vf gone os rows data m∧Hp os.length 0 (fOf os)∧LiveOk os rows data vf∧rows.length≤900∧data.length≤900∧os.length≤800∧told.length+os.length≤900 ∧
   told.map (·.2)=told_of vf gone ∧
   St c ((fr,Nm ((61,.ref 763)::(64,.ref 777)::(66,.ref xl)::(85,.ref od)::(80,.ref q.it)::(35,.int t ttk)::(1,.ref q.ca)::W))::(q.ca,InstP 1373 q.cd)::(q.cd,Dm (q.D (.int m tk) od))::(q.dd,DI c data)::(q.it,DI c rows)::(od,LiP (irefs os))::(xl,LiP (told.map fun x=>.ref x.1)) ::
    (told.map (fun x=>(x.1,TuP [x.2.1,x.2.2]))++(itCells os++L))) s) os0.length
   ⟨os0,[],[],rows0,data0,m0,mtk,[],rfl,⟨.refl _,(fun _ hx=>nomatch hx),rfl,rfl,by simp [lives]⟩,hp,hl,hz,hzd,hz2,(by simp; lia),rfl,S.perm (by exact ixd [1,1,1,1,1,1,0] rfl)⟩ fun n s hI=>?_
  obtain ⟨os,gone,told,rows,data,m,tk,W,rfl,hP,hH,hL,hzr,hzd',hzo,hzt,htold,S⟩:=hI
  have fin:(∀ x∈os,t<x.e)→∀ s',St c ((q.ca,InstP 1373 q.cd)::(q.cd,Dm (q.D (.int m tk) od))::(q.dd,DI c data)::(q.it,DI c rows)::(od,LiP (irefs os))::(xl,LiP (told.map fun x=>.ref x.1)) ::
    (told.map (fun x=>(x.1,TuP [x.2.1,x.2.2]))++(itCells os++L))) s'→R (.ok (.ret (.ref xl))) s':=fun hall s' S=>h xl tk gone os told rows data m s' hP hH hL hall htold (S.perm (by walk_at "d"))
  cases os with
  | nil =>
   walk_at "g"
   refine l_truthy ‹_› (xs:=irefs []) (by exact ixm 5 rfl) (by decide) fun s S=>?_
   refine Br.f ?_
   walk_at "g"
   have S:=S.dropAt (p:=(fr,_)) (by walk_at "k")
   exact fin (fun _ hx=>nomatch hx) _ S
  | cons x hs =>
   have len:(irefs (x::hs)).length≤1000:=by rw [irefs_len]; lia
   have lhs:hs.length≤800:=by rw [List.length_cons] at hzo; lia
   simp only [itCells,List.nil_append,List.cons_append] at S fin
   walk_at "g"
   refine l_truthy ‹_› (xs:=irefs (x::hs)) (by exact ixm 5 rfl) len fun s S=>?_
   refine Br.t ?_
   walk_at "g"
   refine x_attr (by rfl) ?_
   walk_at "g"
   rename_i S
   refine l_item S (xs:=irefs (x::hs)) (v:=.ref x.a) (by exact ixm 5 rfl) rfl len ?_
   walk_at "g"
   rename_i S
   cases hrm:x.rm with
   | true =>
    refine Br.t ?_
    walk_at "g"
    have S:=S.pick (p:=(od,LiP (irefs (x::hs)))) (by walk_at "k")
    refine x_code (h_pop S (by rw [depth_deeper]; lia) (by show A.units+3+1<_; lia) (.head _) (fun y hy=>by
     rcases List.mem_cons.mp hy with rfl | hy
     ·exact ⟨by exact ixn 6 0 rfl rfl,by exact ixn 6 1 rfl rfl⟩
     ·obtain ⟨m1,m2⟩:=itCells_has hy
      exact ⟨by walk_at "m", by walk_at "m"⟩) hH lhs fun hs' s' hp' hH' S=>?_)
    walk_at "g"
    rename_i S
    rw [hrm]
    refine Br.f ?_
    walk_at "g"
    rename_i S
    have S:=S.dropAt (p:=(x.a,_)) (by walk_at "k")
    have S:=S.dropAt (p:=(x.dx,_)) (by walk_at "k")
    have S:=(S.pick (p:=(fr,_)) (by walk_at "k")).weak (P':=Nm ((61,.ref 763)::(64,.ref 777)::(66,.ref xl)::(85,.ref od)::(80,.ref q.it)::(35,.int t ttk)::(1,.ref q.ca)::(79,.ref x.a)::W)) .here (fun o q'=>by exact Nm.sink (l:=[(61,.ref 763),(64,.ref 777),(66,.ref xl),(85,.ref od),(80,.ref q.it),(35,.int t ttk),(1,.ref q.ca)]) q' rfl)
    have S:=S.pickG (G:=itCells hs) (by walk_at "K")
    have S:=S.perm ((itCells_perm hp').append_right _)
    refine ⟨hs.length,Nat.lt_succ_self _,hs',gone++[x],told,rows,data,m,tk,(79,.ref x.a)::W,hp'.length_eq.symm,hP.rm hrm hp',hH',(hL.gone hrm).perm hp',hzr,hzd',(by rw [hp'.length_eq]; exact lhs),(by rw [hp'.length_eq]; rw [List.length_cons] at hzt; lia),(by rw [htold]; unfold told_of; rw [lives_snoc_rm hrm]),S.perm (by walk_at "d")⟩
   | false =>
    refine Br.f ?_
    walk_at "g"
    refine x_attr (by rfl) ?_
    walk_at "g"
    rename_i S
    refine l_item S (xs:=irefs (x::hs)) (v:=.ref x.a) (by exact ixm 5 rfl) rfl len ?_
    walk_at "g"
    rename_i S
    by_cases ht:t<x.e
    ·rw [decide_eq_true ht]
     refine Br.f ?_
     walk_at "g"
     have S:=S.dropAt (p:=(fr,_)) (by walk_at "k")
     exact fin (fun y hy=>Int.lt_of_lt_of_le ht (hp_head hH y hy)) _ (S.perm (by exact .refl _))
    ·rw [decide_eq_false ht]
     refine Br.t ?_
     walk_at "g"
     have S:=S.pick (p:=(od,LiP (irefs (x::hs)))) (by walk_at "k")
     refine x_code (h_pop S (by rw [depth_deeper]; lia) (by show A.units+3+1<_; lia) (.head _) (fun y hy=>by
      rcases List.mem_cons.mp hy with rfl | hy
      ·exact ⟨by exact ixn 6 0 rfl rfl,by exact ixn 6 1 rfl rfl⟩
      ·obtain ⟨m1,m2⟩:=itCells_has hy
       exact ⟨by walk_at "m", by walk_at "m"⟩) hH lhs fun hs' s' hp' hH' S=>?_)
     walk_at "g"
     rw [hrm]
     refine Br.t ?_
     walk_at "g"
     refine To.K keep763 ?_
     walk_at "g"
     refine ⟨⟨_,by assumption⟩,U_getitem (q:=q) (od:=od) (key:=x.k) (kt:=x.kt) (St.pick3 ‹_› (by walk_at "k") (by walk_at "k") (by walk_at "k")) (by rw [depth_deeper]; lia) (hL.1 x (.head _) hrm).2 ?_⟩
     intro s S
     walk_at "g"
     refine l_append ‹_› (by walk_at "r") (by rw [List.length_map]; rw [List.length_cons] at hzt; lia) ?_
     intro _ _
     walk_at "g"
     refine To.K keep777 ?_
     walk_at "g"
     refine ⟨⟨_,by assumption⟩,U_delitem (q:=q) (od:=od) (key:=x.k) (kt:=x.kt) (St.pick3 ‹_› (by walk_at "k") (by walk_at "k") (by walk_at "k")) (by rw [depth_deeper]; lia) (by rw [(hL.1 x (.head _) hrm).2]; rfl) (by lia) ?_⟩
     intro tk s S
     walk_at "g"
     show wpAny _ _ (delItem (.ref q.it) (.int x.k x.kt)) _ _ _
     refine d_del ‹_› (by walk_at "r") (by rw [(hL.1 x (.head _) hrm).1]; rfl) (by lia) ?_
     intro _ _
     walk_at "g"
     rename_i S
     have S:=S.dropAt (p:=(x.a,_)) (by walk_at "k")
     have S:=S.dropAt (p:=(x.dx,_)) (by walk_at "k")
     have S:=(S.pick (p:=(fr,_)) (by walk_at "k")).weak (P':=Nm ((61,.ref 763)::(64,.ref 777)::(66,.ref xl)::(85,.ref od)::(80,.ref q.it)::(35,.int t ttk)::(1,.ref q.ca)::(79,.ref x.a)::W)) .here (fun o q'=>by exact Nm.sink (l:=[(61,.ref 763),(64,.ref 777),(66,.ref xl),(85,.ref od),(80,.ref q.it),(35,.int t ttk),(1,.ref q.ca)]) q' rfl)
     have S:=S.pickG (G:=itCells hs) (by walk_at "K")
     have S:=S.perm ((itCells_perm hp').append_right _)
     have lw:∀ {l:List (Int × Value)},l.length≤900→(without l x.k).length≤900:=fun hl=>Nat.le_trans (List.length_filter_le _ _) hl
     refine' ⟨hs.length,Nat.lt_succ_self _,hs',gone++[x],told++[(_,.int x.k x.kt,vf x.k)],without rows x.k,without data x.k,m-1,tk,(79,.ref x.a)::W,hp'.length_eq.symm,hP.pop hrm ht hp',hH',(hL.due hrm).perm hp',lw hzr,lw hzd',(by rw [hp'.length_eq]; exact lhs),?len,?told,?st⟩
     case st =>
      simp only [List.map_append,List.map_cons,List.map_nil,List.cons_append,List.nil_append,List.append_assoc]
      exact S.perm (by walk_at "d")
     case len=>rw [hp'.length_eq]; simp only [List.length_append,List.length_cons,List.length_nil] at hzt ⊢; lia
     case told=>rw [List.map_append,htold]; unfold told_of; rw [lives_snoc hrm,List.map_append]; rfl
end
end
section
section
variable {l l':List (Int × Value)}{k k':Int}{v:Value}
theorem va_mem (hn:(l.map (·.1)).Nodup) (h:(k,v)∈l):valueAt l k=some v:=by
 induction l with
 | nil=>cases h
 | cons p l ih =>
  rw [List.map_cons,List.nodup_cons] at hn
  unfold valueAt
  rcases List.mem_cons.mp h with rfl | h
  ·simp
  ·have hne:p.1≠k:=fun z=>hn.1 (z ▸ List.mem_map.mpr ⟨(k,v),h,rfl⟩)
   rw [List.find?_cons_of_neg (by simpa using hne)]
   exact ih hn.2 h
theorem va_none:valueAt l k=none↔k ∉ l.map (·.1):=by
 unfold valueAt
 rw [Option.map_eq_none_iff,List.find?_eq_none]
 simp only [List.mem_map,not_exists,not_and,decide_eq_true_eq]
theorem va_isSome (h:k∈l.map (·.1)):(valueAt l k).isSome=true:=by
 cases e:valueAt l k with
 | some _=>rfl
 | none=>exact absurd h (va_none.mp e)
theorem wo_perm (p:l.Perm l'):(without l k).Perm (without l' k):=p.filter _
theorem wo_none (h:k ∉ l.map (·.1)):without l k=l:=by
 unfold without
 rw [List.filter_eq_self]
 intro x hx
 have:x.1≠k:=fun z=>h (z ▸ List.mem_map.mpr ⟨x,hx,rfl⟩)
 simpa using this
theorem st_new (h:valueAt l k=none):stored l k v=l++[(k,v)]:=by
 have h2:=va_none.mp h
 unfold stored
 rw [if_neg]
 intro z
 simp only [List.any_eq_true,decide_eq_true_eq] at z
 obtain ⟨x,hx,rfl⟩:=z
 exact h2 (List.mem_map.mpr ⟨x,hx,rfl⟩)
noncomputable def st_old_P:Prop:=∀ (hn:(l.map (·.1)).Nodup) (h:k∈l.map (·.1)),(stored l k v).Perm (without l k++[(k,v)])
theorem st_old:@st_old_P l k v:=by
 revert l k v
 walk_at "e2"; intro l k
 walk_at "e1"; intro v
 intro hn h
 have h1:l.any (fun kv=>decide (kv.1=k))=true:=by
  obtain ⟨x,hx,rfl⟩:=List.mem_map.mp h
  simp only [List.any_eq_true,decide_eq_true_eq]
  exact ⟨x,hx,rfl⟩
 unfold stored
 rw [if_pos h1]
 clear h1
 induction l with
 | nil=>cases h
 | cons p l ih =>
  rw [List.map_cons,List.nodup_cons] at hn
  by_cases hp:p.1=k
  ·subst hp
   have e1:without (p::l) p.1=l:=by
    unfold without
    rw [List.filter_cons_of_neg (by simp)]
    exact wo_none hn.1
   rw [e1,List.map_cons,if_pos rfl]
   have e2:l.map (fun kv=>if kv.1=p.1 then (kv.1,v) else kv)=l:=by
    have:∀ x∈l,(fun kv:Int × Value=>if kv.1=p.1 then (kv.1,v) else kv) x=id x:=fun x hx=>if_neg fun (z:x.1=p.1)=>hn.1 (List.mem_map.mpr ⟨x,hx,z⟩)
    rw [List.map_congr_left this,List.map_id]
   rw [e2]
   exact (List.perm_append_singleton _ _).symm
  ·have hm:k∈l.map (·.1):=by
    rcases List.mem_cons.mp h with z | z
    ·exact absurd z.symm hp
    ·exact z
   have e1:without (p::l) k=p::without l k:=by
    unfold without
    rw [List.filter_cons_of_pos (by simpa using hp)]
   rw [e1,List.map_cons,if_neg hp]
   exact (ih hn.2 hm).cons _
theorem wo_fold {α:Type}{f:α→Int}:∀ (gs:List α) (l:List (Int × Value)),gs.foldl (fun d x=>without d (f x)) l=l.filter fun p=>decide (p.1 ∉ gs.map f)
 | [],l=>by simp only [List.foldl_nil,List.map_nil,List.not_mem_nil,not_false_eq_true,decide_true]; exact (List.filter_eq_self.mpr fun _ _=>rfl).symm
 | g::gs,l=>by
  rw [List.foldl_cons,wo_fold gs,without,List.filter_filter]
  congr 1
  funext p
  simp only [List.map_cons,List.mem_cons,not_or,← Bool.decide_and]
  congr 1
  exact propext ⟨fun ⟨a,b⟩=>⟨b,a⟩,fun ⟨a,b⟩=>⟨b,a⟩⟩
theorem without_len:(without l k).length≤l.length:=List.length_filter_le _ _
end
structure UI (rs:List (It × Value)) (os:List It) (rows data:List (Int × Value)) (m:Int):Prop where
 rows:rows=rs.map fun r=>(r.1.k,Value.ref r.1.a)
 data:data.Perm (rs.map fun r=>(r.1.k,r.2))
 lv:(lives os).Perm (rs.map (·.1))
 nd:(rs.map (·.1.k)).Nodup
 hp:Hp os.length 0 (fOf os)
 m:m=rs.length
section
variable {rs:List (It × Value)}{os os':List It}{rows data:List (Int × Value)}{m:Int}{k:Int}{r:It × Value}
theorem UI.rkeys (u:UI rs os rows data m):rows.map (·.1)=rs.map (·.1.k):=by rw [u.rows,List.map_map]; rfl
theorem UI.dkeys (u:UI rs os rows data m):(data.map (·.1)).Perm (rs.map (·.1.k)):=by
 have:=u.data.map (·.1)
 rw [List.map_map] at this
 exact this
theorem UI.rnd (u:UI rs os rows data m):(rows.map (·.1)).Nodup:=u.rkeys ▸ u.nd
theorem UI.dnd (u:UI rs os rows data m):(data.map (·.1)).Nodup:=u.dkeys.nodup_iff.mpr u.nd
theorem UI.atR (u:UI rs os rows data m) (h:r∈rs):valueAt rows r.1.k=some (.ref r.1.a) :=
 va_mem u.rnd (by rw [u.rows]; exact List.mem_map.mpr ⟨r,h,rfl⟩)
theorem UI.atD (u:UI rs os rows data m) (h:r∈rs):valueAt data r.1.k=some r.2 :=
 va_mem u.dnd (u.data.symm.subset (List.mem_map.mpr ⟨r,h,rfl⟩))
theorem UI.live (u:UI rs os rows data m) {x:It} (h:x∈os) (hr:x.rm=false):∃ v,(x,v)∈rs:=by
 have h1:x∈lives os:=List.mem_filter.mpr ⟨h,by simp [hr]⟩
 obtain ⟨⟨y,v⟩,h2,rfl⟩:=List.mem_map.mp (u.lv.subset h1)
 exact ⟨v,h2⟩
theorem UI.inO (u:UI rs os rows data m) (h:r∈rs):r.1∈os∧r.1.rm=false:=by
 have:=List.mem_filter.mp (u.lv.symm.subset (List.mem_map.mpr ⟨r,h,rfl⟩))
 exact ⟨this.1,by simpa using this.2⟩
theorem UI.inj (u:UI rs os rows data m) {r':It × Value} (h:r∈rs) (h':r'∈rs) (e:r.1.k=r'.1.k):r=r':=by
 have hn:=u.nd
 clear u
 induction rs with
 | nil=>cases h
 | cons p rs ih =>
  rw [List.map_cons,List.nodup_cons] at hn
  rcases List.mem_cons.mp h with h | h <;> rcases List.mem_cons.mp h' with h' | h'
  ·exact h.trans h'.symm
  ·exact absurd (List.mem_map.mpr ⟨r',h',by rw [← e,h]⟩) hn.1
  ·exact absurd (List.mem_map.mpr ⟨r,h,by rw [e,h']⟩) hn.1
  ·exact ih h h' hn.2
theorem UI.rlen (u:UI rs os rows data m):rows.length=rs.length:=by rw [u.rows,List.length_map]
theorem UI.dlen (u:UI rs os rows data m):data.length=rs.length:=by rw [u.data.length_eq,List.length_map]
theorem UI.olen (u:UI rs os rows data m):rs.length≤os.length:=by
 have:=u.lv.length_eq
 rw [List.length_map] at this
 rw [← this]
 exact List.length_filter_le _ _
theorem lives_lives (os:List It):lives (lives os)=lives os:=by unfold lives; rw [List.filter_filter]; simp
theorem lives_app (us vs:List It):lives (us++vs)=lives us++lives vs:=List.filter_append ..
theorem UI.clean (u:UI rs os rows data m) (h:Cl os os') (hp:Hp os'.length 0 (fOf os')):UI rs os' rows data m:=by
 refine ⟨u.rows,u.data,?_,u.nd,hp,u.m⟩
 rcases h with rfl | h
 ·exact u.lv
 ·have h1:=h.filter (fun x=>!x.rm)
  exact (h1.trans (by rw [show (lives os).filter (fun x=>!x.rm)=lives os from lives_lives os])).trans u.lv
theorem UI.ok (u:UI rs os rows data m):LiveOk os rows data fun k=>(valueAt data k).getD .none:=by
 refine ⟨fun x hx hr=>?_,?_⟩
 ·obtain ⟨v,h⟩:=u.live hx hr
  have h1:=u.atR h
  have h2:=u.atD h
  dsimp only at h1 h2
  exact ⟨h1,by show _=some ((valueAt data x.k).getD .none); rw [h2]; rfl⟩
 ·have:=(u.lv.map It.k).nodup_iff
  rw [this,List.map_map]
  exact u.nd
noncomputable def alive (t:Int) (rs:List (It × Value)):List (It × Value):=rs.filter fun r=>decide (t<r.1.e)
noncomputable def dead (t:Int) (rs:List (It × Value)):List (It × Value):=rs.filter fun r=>!decide (t<r.1.e)
noncomputable def tolds (rs:List (It × Value)):List (Value × Value):=rs.map fun r=>(.int r.1.k r.1.kt,r.2)
theorem filt_map {α β:Type}{f:α→β}{p:β→Bool}{q:α→Bool}{l:List α} (h:∀ x∈l,p (f x)=q x):(l.map f).filter p=(l.filter q).map f:=by
 rw [List.filter_map]
 congr 1
 exact List.filter_congr h
theorem UI.pops {t:Int}{gone os'':List It}{rows'' data'':List (Int × Value)}{m'':Int} (u:UI rs os rows data m) (P:Pops t os rows data m (fun k=>(valueAt data k).getD .none) gone os'' rows'' data'' m'')
  (hp:Hp os''.length 0 (fOf os'')) (hl:∀ x∈os'',t<x.e):UI (alive t rs) os'' rows'' data'' m''∧(told_of (fun k=>(valueAt data k).getD .none) gone).Perm (tolds (dead t rs)):=by
 have pl:(lives gone++lives os'').Perm (rs.map (·.1)):=by
  rw [← lives_app]
  exact (P.perm.filter _).trans u.lv
 have g1:∀ x∈lives gone,¬ t<x.e:=fun x hx=>by
  have h1:=List.mem_filter.mp hx
  rcases P.due x h1.1 with h2 | h2
  ·rw [h2] at h1; exact absurd h1.2 (by decide)
  ·exact h2
 have o1:∀ x∈lives os'',t<x.e:=fun x hx=>hl x (List.mem_filter.mp hx).1
 have pa:(lives os'').Perm ((alive t rs).map (·.1)):=by
  have h1:=pl.filter fun x=>decide (t<x.e)
  rw [List.filter_append,List.filter_eq_nil_iff.mpr (fun x hx=>by simpa using g1 x hx),List.nil_append,List.filter_eq_self.mpr (fun x hx=>by simpa using o1 x hx)] at h1
  rw [filt_map (q:=fun r=>decide (t<r.1.e)) fun _ _=>rfl] at h1
  exact h1
 have pd:(lives gone).Perm ((dead t rs).map (·.1)):=by
  have h1:=pl.filter fun x=>!decide (t<x.e)
  rw [List.filter_append,List.filter_eq_self.mpr (fun x hx=>by simpa using g1 x hx),List.filter_eq_nil_iff.mpr (fun x hx=>by simpa using o1 x hx),List.append_nil] at h1
  rw [filt_map (p:=fun x:It=>!decide (t<x.e)) (q:=fun r:It × Value=>!decide (t<r.1.e)) fun _ _=>rfl] at h1
  exact h1
 have keys:∀ r∈rs,decide (r.1.k ∉ (lives gone).map It.k)=decide (t<r.1.e):=fun r hr=>by
  congr 1
  refine propext ⟨fun h=>?_,fun h z=>?_⟩
  ·rcases Classical.em (t<r.1.e) with h1 | h1
   ·exact h1
   ·refine absurd ?_ h
    have h2:r∈dead t rs:=List.mem_filter.mpr ⟨hr,by simpa using h1⟩
    exact List.mem_map.mpr ⟨r.1,pd.symm.subset (List.mem_map.mpr ⟨r,h2,rfl⟩),rfl⟩
  ·obtain ⟨x,hx,e⟩:=List.mem_map.mp z
   obtain ⟨r',h1,rfl⟩:=List.mem_map.mp (pl.subset (List.mem_append_left _ hx))
   have:=u.inj h1 hr e
   subst this
   exact g1 _ hx h
 refine ⟨⟨?_,?_,pa,?_,hp,?_⟩,?_⟩
 ·rw [P.rows,wo_fold,u.rows]
  exact filt_map (p:=fun p:Int × Value=>decide (p.1 ∉ (lives gone).map It.k)) (q:=fun r:It × Value=>decide (t<r.1.e)) keys
 ·rw [P.data,wo_fold]
  refine (u.data.filter _).trans ?_
  rw [filt_map (p:=fun p:Int × Value=>decide (p.1 ∉ (lives gone).map It.k)) (q:=fun r:It × Value=>decide (t<r.1.e)) keys]
  exact .refl _
 ·exact (List.filter_sublist.map _).nodup u.nd
 ·have h1:=pl.length_eq
  have h2:=pa.length_eq
  rw [List.length_append,List.length_map] at h1
  rw [List.length_map] at h2
  rw [P.m,u.m]
  lia
 ·unfold told_of tolds
  have h1:((lives gone).map fun x=>(Value.int x.k x.kt,(valueAt data x.k).getD .none)).Perm _:=pd.map fun x=>(Value.int x.k x.kt,(valueAt data x.k).getD .none)
  rw [List.map_map] at h1
  refine h1.trans (.of_eq (List.map_congr_left (l:=dead t rs) fun (r:It × Value) hr=>?_))
  have h2:=u.atD (List.mem_filter.mp hr).1
  show (Value.int r.1.k r.1.kt,(valueAt data r.1.k).getD .none)=_
  rw [h2]
  rfl
end
end
section
section
variable {q:UCfg c}{od:Addr}{env:Env}{fr:Addr}
theorem Cl.len {os os':List It} (h:Cl os os'):os'.length≤os.length:=by
 rcases h with rfl | h
 ·exact Nat.le_refl _
 ·rw [h.length_eq]; exact List.length_filter_le _ _
theorem X_expireU {rs:List (It × Value)}{rows data:List (Int × Value)}{os:List It}{m:Int}{mtk:Tok}{t:Int}{ttk:Tok}
  (S:St c ((fr,Nm [(35,.int t ttk),(1,.ref q.ca)])::(q.ca,InstP 1373 q.cd)::(q.cd,Dm (q.D (.int m mtk) od))::(q.dd,DI c data)::(q.it,DI c rows)::(od,LiP (irefs os))::(itCells os++L)) s)
  (hr:A.depth+2<recursionLimit) (hu:A.units+10<cLine) (hh:A.handled=none) (hz:os.length≤800) (u:UI rs os rows data m)
  (h:∀ xl tk od' os' rows' data' m' (told:List (Addr × Value × Value)) s',UI (alive t rs) os' rows' data' m'→os'.length≤os.length→(∀ x∈os',t<x.e)→(told.map (·.2)).Perm (tolds (dead t rs)) →
   St c ((xl,LiP (told.map fun x=>.ref x.1))::(told.map (fun x=>(x.1,TuP [x.2.1,x.2.2]))++((q.ca,InstP 1373 q.cd)::(q.cd,Dm (q.D (.int m' tk) od'))::(q.dd,DI c data')::(q.it,DI c rows')::(od',LiP (irefs os'))::(itCells os'++L)))) s'→R (.ok (.ret (.ref xl))) s') :
  wpAny c.M (A.deeper (envF 1348 fd1348 fr)) (execs tail1348 (envF 1348 fd1348 fr)) (Back R) (Fly c A (envF 1348 fd1348 fr) R) s:=by
 have l1:=u.rlen
 have l2:=u.dlen
 have l3:=u.olen
 refine X_clean S (by lia) hu hh (by lia) hz u.hp fun od' os' s' hc hp S=>?_
 have u':=u.clean hc hp
 have l4:=hc.len
 refine X_pops S hr hu (by lia) (by lia) (by lia) hp u'.ok fun xl tk gone os2 told rows2 data2 m2 s2 P hp2 _ hl e S=>?_
 obtain ⟨u2,pt⟩:=u'.pops P hp2 hl
 have l5:=P.perm.length_eq
 rw [List.length_append] at l5
 exact h xl tk od' os2 rows2 data2 m2 told s2 u2 (by lia) hl (e ▸ pt) S
theorem U_expire {rs:List (It × Value)}{rows data:List (Int × Value)}{os:List It}{m:Int}{mtk:Tok}{t:Int}{ttk:Tok}
  (S:St c ((q.ca,InstP 1373 q.cd)::(q.cd,Dm (q.D (.int m mtk) od))::(q.dd,DI c data)::(q.it,DI c rows)::(od,LiP (irefs os))::(itCells os++L)) s)
  (hr:A.depth+2<recursionLimit) (hu:A.units+10<cLine) (hh:A.handled=none) (hz:os.length≤800) (u:UI rs os rows data m)
  (h:∀ xl tk od' os' rows' data' m' (told:List (Addr × Value × Value)) s',UI (alive t rs) os' rows' data' m'→os'.length≤os.length→(∀ x∈os',t<x.e)→(told.map (·.2)).Perm (tolds (dead t rs)) →
   St c ((xl,LiP (told.map fun x=>.ref x.1))::(told.map (fun x=>(x.1,TuP [x.2.1,x.2.2]))++((q.ca,InstP 1373 q.cd)::(q.cd,Dm (q.D (.int m' tk) od'))::(q.dd,DI c data')::(q.it,DI c rows')::(od',LiP (irefs os'))::(itCells os'++L)))) s'→R (.ok (.ret (.ref xl))) s') :
  codeAny c.M A (.call (.ref 1348) ⟨[.ref q.ca,.int t ttk],[]⟩) R s:=by
 refine f_call fn1348 [(1,.ref q.ca),(35,.int t ttk)] S (by lia) (by rfl) (by kernel_rfl!) (by kernel_rfl!) ?_
 intro fr s S
 have F:=fn1348
 refine x_cut (fun s=>St c ((fr,Nm [(35,.int t ttk),(1,.ref q.ca)])::(q.ca,InstP 1373 q.cd)::(q.cd,Dm (q.D (.int m mtk) od))::(q.dd,DI c data)::(q.it,DI c rows)::(od,LiP (irefs os))::(itCells os++L)) s) ?_ fun s S=>X_expireU S hr hu hh hz u h
 walk_at "g"
 rename_i S
 exact Nxt.ok S
theorem mu_clock {cs:Value}{t m:Int}{pos:Pos}{pl:Sem Bool}{Q:Value→Shared→Prop}{L1 L2 L3:List Cell}
  (S:St c L s) (hx:(q.ca,InstP 1373 q.cd)∈L) (hd:(q.cd,Dm (q.D cs od))∈L)
  (p1:Pick (q.tm,InstP 929 q.td) L L1) (p2:Pick (q.td,Tm0 q.K.clk) L1 L2) (p3:PickG (q.K.G t m) L2 L3) (hr:A.depth+1<recursionLimit)
  (h:∀ tk s',St c ((q.tm,InstP 929 q.td)::(q.td,Tm0 q.K.clk)::(q.K.G (t+q.K.step) (m+1)++L3)) s'→Q (.int (t+q.K.step) tk) s') :
  wpAny c.M A (getMethod (.ref q.ca) (Str.ofString "timer") pl) (fun fx s₂=>To c A env pos fx.1 fx.2 [] Q E s₂) E s:=by
 refine g_usual S hx hd timer_usualU ?_
 refine eu_timer S hx hd (by lia) fun s S=>?_
 have S:=(S.pick2 p1 p2).perm (L':=(q.tm,InstP 929 q.td)::(q.td,Tm0 q.K.clk)::(q.K.G t m++L3)) ((p3.perm.cons _).cons _).symm
 obtain ⟨⟨tk,j⟩,S1⟩:=(S.pick (Pick.there .here)).open1
 have S2:=S1.pick (p:=(q.tm,InstP 929 q.td)) (.there .here)
 refine To.inst (dx:=q.td) timer_callOk (.nil ⟨⟨_,S2,.head _,.tail _ (.head _)⟩,?_⟩)
 exact timer_call_out S hr fun tk s S=>h tk s S
theorem U_expire0 {rs:List (It × Value)}{rows data:List (Int × Value)}{os:List It}{m t n:Int}{mtk:Tok}
  (S:St c ((q.ca,InstP 1373 q.cd)::(q.cd,Dm (q.D (.int m mtk) od))::(q.dd,DI c data)::(q.it,DI c rows)::(q.tm,InstP 929 q.td)::(q.td,Tm0 q.K.clk)::(od,LiP (irefs os))::(itCells os++(q.K.G t n++L))) s)
  (hr:A.depth+2<recursionLimit) (hu:A.units+10<cLine) (hh:A.handled=none) (hz:os.length≤800) (u:UI rs os rows data m)
  (h:∀ xl tk od' os' rows' data' m' (told:List (Addr × Value × Value)) s',UI (alive (t+q.K.step) rs) os' rows' data' m'→os'.length≤os.length→(∀ x∈os',t+q.K.step<x.e)→(told.map (·.2)).Perm (tolds (dead (t+q.K.step) rs)) →
   St c ((xl,LiP (told.map fun x=>.ref x.1))::(told.map (fun x=>(x.1,TuP [x.2.1,x.2.2]))++((q.ca,InstP 1373 q.cd)::(q.cd,Dm (q.D (.int m' tk) od'))::(q.dd,DI c data')::(q.it,DI c rows')::(q.tm,InstP 929 q.td)::(q.td,Tm0 q.K.clk)::(od',LiP (irefs os'))::(itCells os'++(q.K.G (t+q.K.step) (n+1)++L))))) s'→R (.ok (.ret (.ref xl))) s') :
  codeAny c.M A (.call (.ref 1348) ⟨[.ref q.ca],[]⟩) R s:=by
 refine f_call fn1348 [(1,.ref q.ca),(35,.none)] S (by lia) (by rfl) (by kernel_rfl!) (by kernel_rfl!) ?_
 intro fr s S
 have F:=fn1348
 refine x_cut (fun s=>∃ ttk,St c ((fr,Nm [(35,.int (t+q.K.step) ttk),(1,.ref q.ca)])::(q.ca,InstP 1373 q.cd)::(q.cd,Dm (q.D (.int m mtk) od))::(q.dd,DI c data)::(q.it,DI c rows)::(od,LiP (irefs os))::(itCells os++((q.tm,InstP 929 q.td)::(q.td,Tm0 q.K.clk)::(q.K.G (t+q.K.step) (n+1)++L)))) s) ?_ fun s S=>?_
 ·walk_at "g"
  refine mu_clock (od:=od) ‹_› (by walk_at "m") (by walk_at "m") (by walk_at "k") (by walk_at "k") (by walk_at "K") (by rw [depth_deeper]; lia) ?_
  intro tk s S
  walk_at "g"
  rename_i S
  refine Nxt.ok ⟨tk,?_⟩
  have S:=S.pick (p:=(fr,_)) (by walk_at "k")
  have S:=S.weak (P':=Nm [(35,.int (t+q.K.step) tk),(1,.ref q.ca)]) .here (fun o q'=>Nm.norm0 q')
  exact S.perm (by walk_at "d")
 ·obtain ⟨ttk,S⟩:=S
  exact X_expireU S hr hu hh hz u fun xl tk od' os' rows' data' m' told s' u' hl ha ht S=>h xl tk od' os' rows' data' m' told s' u' hl ha ht (S.perm (by walk_at "d"))
end
end
section
section
variable {q:UCfg c}{od:Addr}{env:Env}{fr:Addr}
theorem keep1348 (P:Params):keepIn (Mine.K P) (.ref 1348)=true:=by kernel_rfl!
theorem keep1355 (P:Params):keepIn (Mine.K P) (.ref 1355)=true:=by kernel_rfl!
noncomputable def dropK (k:Int) (rs:List (It × Value)):List (It × Value):=rs.filter fun r=>decide (r.1.k≠k)
theorem dropK_none {k:Int}{rs:List (It × Value)} (h:k ∉ rs.map (·.1.k)):dropK k rs=rs:=by
 unfold dropK
 rw [List.filter_eq_self]
 intro r hr
 have:r.1.k≠k:=fun z=>h (List.mem_map.mpr ⟨r,hr,z⟩)
 simpa using this
theorem dropK_head {r:It × Value}{rs:List (It × Value)} (h:((r::rs).map (·.1.k)).Nodup):dropK r.1.k (r::rs)=rs:=by
 rw [List.map_cons,List.nodup_cons] at h
 have:dropK r.1.k (r::rs)=dropK r.1.k rs:=by unfold dropK; rw [List.filter_cons_of_neg (by simp)]
 rw [this,dropK_none h.1]
theorem fOf_gone {us vs:List It}{x:It}:fOf (us++x.gone::vs)=fOf (us++x::vs):=by
 funext i
 unfold fOf
 rcases Nat.lt_trichotomy i us.length with h | h | h
 ·rw [List.getElem?_append_left h,List.getElem?_append_left h]
 ·subst h
  rw [List.getElem?_append_right (Nat.le_refl _),List.getElem?_append_right (Nat.le_refl _),Nat.sub_self]
  rfl
 ·rw [List.getElem?_append_right (Nat.le_of_lt h),List.getElem?_append_right (Nat.le_of_lt h)]
  obtain ⟨j,e⟩ : ∃ j,i-us.length=j+1:=⟨i-us.length-1,(Nat.sub_add_cancel (Nat.sub_pos_of_lt h)).symm⟩
  rw [e]
  rfl
theorem lives_gone {us vs:List It}{x:It} (h:x.rm=false):(lives (us++x::vs)).Perm (x::lives (us++x.gone::vs)):=by
 have e1:lives (x::vs)=x::lives vs:=by unfold lives; rw [List.filter_cons_of_pos (by simp [h])]
 have e2:lives (x.gone::vs)=lives vs:=by unfold lives; rw [List.filter_cons_of_neg (by simp [It.gone])]
 rw [lives_app,lives_app,e1,e2]
 exact List.perm_middle
section
variable {rs:List (It × Value)}{os os' us vs:List It}{rows data:List (Int × Value)}{m:Int}{x:It}{v:Value}
theorem UI.split (u:UI rs os rows data m) (h:(x,v)∈rs):rs.Perm ((x,v)::dropK x.k rs):=by
 have hn:=u.nd
 clear u
 induction rs with
 | nil=>cases h
 | cons r rs ih =>
  rcases List.mem_cons.mp h with e | h
  ·subst e
   rw [dropK_head hn]
  ·have hne:r.1.k≠x.k:=fun z=>by
    rw [List.map_cons,List.nodup_cons] at hn
    exact hn.1 (List.mem_map.mpr ⟨_,h,z.symm⟩)
   have:dropK x.k (r::rs)=r::dropK x.k rs:=by unfold dropK; rw [List.filter_cons_of_pos (by simpa using hne)]
   rw [this]
   exact ((ih h (List.nodup_cons.mp hn).2).cons r).trans (.swap ..)
theorem rows_drop {k:Int}:without (rs.map fun r=>(r.1.k,Value.ref r.1.a)) k=(dropK k rs).map fun r=>(r.1.k,Value.ref r.1.a):=by
 unfold without dropK
 exact filt_map (p:=fun p:Int × Value=>decide (p.1≠k)) (q:=fun r:It × Value=>decide (r.1.k≠k)) fun _ _=>rfl
theorem data_drop {k:Int}:without (rs.map fun r=>(r.1.k,r.2)) k=(dropK k rs).map fun r=>(r.1.k,r.2):=by
 unfold without dropK
 exact filt_map (p:=fun p:Int × Value=>decide (p.1≠k)) (q:=fun r:It × Value=>decide (r.1.k≠k)) fun _ _=>rfl
theorem UI.del (u:UI rs (us++x::vs) rows data m) (h:(x,v)∈rs):UI (dropK x.k rs) (us++x.gone::vs) (without rows x.k) (without data x.k) (m-1):=by
 have sp:=u.split h
 have hr:=(u.inO h).2
 refine ⟨?_,?_,?_,?_,?_,?_⟩
 ·rw [u.rows,rows_drop]
 ·exact (wo_perm u.data).trans (by rw [data_drop])
 ·have h1:=((lives_gone hr).symm.trans u.lv).trans (sp.map (·.1))
  exact h1.cons_inv
 ·exact (List.filter_sublist.map _).nodup u.nd
 ·have:=u.hp
  rw [fOf_gone]
  simpa [List.length_append] using this
 ·have:=sp.length_eq
  rw [u.m,this,List.length_cons]
  lia
theorem UI.move (u:UI rs os rows data m) (h:(x,v)∈rs):UI (dropK x.k rs++[(x,v)]) os (without rows x.k++[(x.k,.ref x.a)]) data m:=by
 have sp:rs.Perm (dropK x.k rs++[(x,v)]):=(u.split h).trans (List.perm_append_singleton _ _).symm
 refine ⟨?_,?_,?_,?_,u.hp,?_⟩
 ·rw [u.rows,rows_drop,List.map_append]; rfl
 ·exact u.data.trans (sp.map _)
 ·exact u.lv.trans (sp.map _)
 ·exact (sp.map _).nodup_iff.mp u.nd
 ·rw [u.m,sp.length_eq]
end
noncomputable def U_popitem_P (rs rest:List (It × Value)) (r:It × Value) (rows data:List (Int × Value)) (os:List It) (m n t t0 m0 t' t0' m0':Int) (mtk:Tok):Prop:=∀ (S:St c ((q.ca,InstP 1373 q.cd)::(q.cd,Dm (q.D (.int m mtk) od))::(q.dd,DI c data)::(q.it,DI c rows)::(q.tm,InstP 929 q.td)::(q.td,Tms q.K.clk n t)::(od,LiP (irefs os))::(itCells os++(q.K.G t0 m0++L))) s) (hr:A.depth+4<recursionLimit) (hu:A.units+20<cLine) (hh:A.handled=none) (hz:os.length≤800) (hn:0≤n) (hm:Mv q.K n t t0 m0 t' t0' m0') (u:UI rs os rows data m) (hne:alive t' rs=r::rest) (h:∀ x ktk tk od' os' rows' data' m' s',UI rest os' rows' data' m'→os'.length≤os.length→(∀ x∈os',t'<x.e)→St c ((x,TuP [.int r.1.k ktk,r.2])::(q.ca,InstP 1373 q.cd)::(q.cd,Dm (q.D (.int m' tk) od'))::(q.dd,DI c data')::(q.it,DI c rows')::(q.tm,InstP 929 q.td)::(q.td,Tms q.K.clk n t')::(od',LiP (irefs os'))::(itCells os'++(q.K.G t0' m0'++L))) s'→R (.ok (.ret (.ref x))) s'),codeAny c.M A (.call (.ref 1355) ⟨[.ref q.ca],[]⟩) R s
set_option maxHeartbeats 4000000 in
theorem U_popitem {rs rest:List (It × Value)}{r:It × Value}{rows data:List (Int × Value)}{os:List It}{m n t t0 m0 t' t0' m0':Int}{mtk:Tok}:@U_popitem_P c L s A R q od rs rest r rows data os m n t t0 m0 t' t0' m0' mtk:=by
 revert c L s A R q od rs rest r rows data os m n t t0 m0 t' t0' m0' mtk
 walk_at "e5"; intro c L s A R
 walk_at "e9"; intro q od rs rest r rows data os m
 walk_at "e5"; intro n t t0 m0 t'
 walk_at "e2"; intro t0' m0'
 walk_at "e1"; intro mtk
 intro S hr hu hh hz hn hm u hne h
 have n1:n+1≠0:=by lia
 refine f_call fn1355 [(1,.ref q.ca)] S (by lia) (by rfl) (by kernel_rfl!) (by kernel_rfl!) ?_
 intro fr s S
 have F:=fn1355
 refine x_cons ?_
 refine x_wN ?_
 walk_at "g"
 refine eu_timer S (by walk_at "m") (by walk_at "m") (by rw [depth_deeper]; lia) fun s S=>?_
 refine ⟨_,_,_,_,rfl,S,by exact ixm 5 rfl,by exact ixm 6 rfl,?_⟩
 refine timer_enter (St.pick2G S (by walk_at "k") (by walk_at "k") (by walk_at "K")) (by rw [depth_deeper]; lia) hm fun ttk s S=>?_
 walk_at "g"
 refine g_meth ‹_› (by exact ixn 2 1 rfl rfl) (by walk_at "c") (by exact ixn 2 2 rfl rfl) (by walk_at "i") (by rfl) (by rfl) ?_
 refine To.K keep1348 ?_
 walk_at "g"
 have S:=St.perm (L':=(q.ca,InstP 1373 q.cd)::(q.cd,Dm (q.D (.int m mtk) od))::(q.dd,DI c data)::(q.it,DI c rows)::(od,LiP (irefs os))::(itCells os++((q.tm,InstP 929 q.td)::(q.td,Tmr q.K.clk (n+1) t')::(q.K.G t0' m0'++((fr,Nm [(35,.int t' ttk),(1,.ref q.ca)])::L))))) ‹_› (by walk_at "d")
 refine ⟨⟨_,S⟩,U_expire (q:=q) S (by rw [depth_deeper]; lia) (by show A.units+3+10<_; lia) hh hz u ?_⟩
 intro xl tk od1 os1 rows1 data1 m1 told s u1 l1 a1 e1 S
 have S:=S.drop.dropG
 rw [hne] at u1
 have hrows:=u1.rows
 rw [List.map_cons] at hrows
 obtain ⟨x,v⟩:=r
 dsimp only at hrows
 have hx:=u1.inO (r:=(x,v)) (.head _)
 obtain ⟨us,vs,rfl⟩:=List.append_of_mem hx.1
 have hv:=u1.atD (r:=(x,v)) (.head _)
 have hw:=u1.atR (r:=(x,v)) (.head _)
 have k1:=u1.rlen
 have k2:=u1.dlen
 have k3:=u1.olen
 dsimp only at hv hw
 walk_at "g"
 refine d_iter (St.pick2 ‹_› (by walk_at "k") (by walk_at "k")) fun I ep s S=>?_
 rw [hrows] at S
 walk_at "g"
 refine d_next (k:=x.k) (x:=.ref x.a) S rfl fun ktk s S=>?_
 have S:=S.dropAt (p:=(I,_)) (by walk_at "k")
 have S:=S.weak (a:=q.it) (P':=DI c rows1) (by walk_at "r") (fun o z=>by rw [hrows]; exact z.di)
 walk_at "g"
 refine m_cls ‹_› mc_getitem fun s S=>?_
 refine To.K keep763 ?_
 walk_at "g"
 refine ⟨⟨_,by assumption⟩,U_getitem (q:=q) (od:=od1) (St.pick3 ‹_› (by walk_at "k") (by walk_at "k") (by walk_at "k")) (by rw [depth_deeper]; lia) hv ?_⟩
 intro s S
 walk_at "g"
 refine i_del ‹_› (by walk_at "m") (by walk_at "m") sp_delU ?_
 refine U_del_live (q:=q) (St.pick6G ‹_› (by walk_at "k") (by walk_at "k") (by walk_at "k") (by walk_at "k") (by walk_at "k") (by walk_at "k") (by walk_at "K")) (by rw [depth_deeper]; lia) n1 (by lia) hw (by rw [hv]; rfl) (a1 x (List.mem_append_right _ (.head _))) (by lia) (by lia) fun tk s S=>?_
 walk_at "g"
 rename_i xt s S
 refine timer_exit (St.pick2 S (by walk_at "k") (by walk_at "k")) (by rw [depth_deeper]; lia) fun s S=>?_
 walk_at "g"
 have ud:=u1.del (.head _)
 rw [dropK_head (r:=(x,v)) u1.nd] at ud
 refine h xt ktk tk od1 (us++x.gone::vs) _ _ _ _ ud (by simpa [List.length_append] using l1) (fun y hy=>?_) ?_
 ·rcases List.mem_append.mp hy with hy | hy
  ·exact a1 y (List.mem_append_left _ hy)
  ·rcases List.mem_cons.mp hy with rfl | hy
   ·exact a1 x (List.mem_append_right _ (.head _))
   ·exact a1 y (List.mem_append_right _ (.tail _ hy))
 ·have e:irefs (us++x.gone::vs)=irefs (us++x::vs):=by unfold irefs; simp [It.gone]
  rw [e]
  exact (S.dropAt (p:=(fr,_)) (by walk_at "k")).perm (by walk_at "d")
end
end
section
section
variable {q:UCfg c}{od:Addr}{env:Env}{fr:Addr}
noncomputable def stays (room k:Int) (rs:List (It × Value)):List (It × Value):=if k∈rs.map (·.1.k) then rs else if (rs.length:Int)+1≤room then rs else rs.tail
theorem alive_all {t:Int}{rs:List (It × Value)} (h:∀ r∈rs,t<r.1.e):alive t rs=rs:=List.filter_eq_self.mpr fun r hr=>by simpa using h r hr
theorem UI.liveAll {rs:List (It × Value)}{os:List It}{rows data:List (Int × Value)}{m t:Int} (u:UI rs os rows data m) (h:∀ x∈os,t<x.e):∀ r∈rs,t<r.1.e:=fun r hr=>h r.1 (u.inO hr).1
noncomputable def Laid (k:Int) (v:Value) (rs2:List (It × Value)) (data':List (Int × Value)):Prop:=data'.Perm ((dropK k rs2).map (fun r=>(r.1.k,r.2))++[(k,v)])
theorem UI.laid_old {rs:List (It × Value)}{os:List It}{rows data:List (Int × Value)}{m k:Int}{v:Value} (u:UI rs os rows data m) (h:k∈rs.map (·.1.k)):Laid k v rs (stored data k v):=by
 refine (st_old u.dnd (u.dkeys.symm.subset h)).trans ?_
 refine List.Perm.append_right _ ?_
 rw [← data_drop]
 exact wo_perm u.data
theorem UI.laid_new {rs:List (It × Value)}{os:List It}{rows data:List (Int × Value)}{m k:Int}{v:Value} (u:UI rs os rows data m) (h:k ∉ rs.map (·.1.k)):Laid k v rs (stored data k v):=by
 unfold Laid
 rw [st_new (va_none.mpr fun z=>h (u.dkeys.subset z)),dropK_none h]
 exact u.data.append_right _
theorem UI.dropLen {rs:List (It × Value)}{os:List It}{rows data:List (Int × Value)}{m k:Int} (u:UI rs os rows data m) (h:k∈rs.map (·.1.k)):rs.length=(dropK k rs).length+1:=by
 obtain ⟨⟨x,v⟩,hr,rfl⟩:=List.mem_map.mp h
 have:=(u.split hr).length_eq
 rwa [List.length_cons] at this
noncomputable def U_put_P (rs:List (It × Value)) (rows data:List (Int × Value)) (os:List It) (m n t t0 m0 key:Int) (mtk kt:Tok) (v:Value):Prop:=∀ (S:St c ((q.ca,InstP 1373 q.cd)::(q.cd,Dm (q.D (.int m mtk) od))::(q.dd,DI c data)::(q.it,DI c rows)::(q.tm,InstP 929 q.td)::(q.td,Tmr q.K.clk n t)::(od,LiP (irefs os))::(itCells os++(q.K.G t0 m0++L))) s) (hr:A.depth+5<recursionLimit) (hu:A.units+30<cLine) (hh:A.handled=none) (hz:os.length≤800) (hn:0<n) (u:UI rs os rows data m) (hl:∀ x∈os,t<x.e) (hroom:1≤q.room) (hm:m≤q.room) (h:∀ tk od' os' rows' dataOld data' mOld s',UI (stays q.room key rs) os' rows' dataOld mOld→Laid key v (stays q.room key rs) data'→os'.length≤os.length→(∀ x∈os',t<x.e)→St c ((q.ca,InstP 1373 q.cd)::(q.cd,Dm (q.D (.int ((dropK key (stays q.room key rs)).length+1:Nat) tk) od'))::(q.dd,DI c data')::(q.it,DI c rows')::(q.tm,InstP 929 q.td)::(q.td,Tmr q.K.clk n t)::(od',LiP (irefs os'))::(itCells os'++(q.K.G t0 m0++L))) s'→R (.ok (.ret .none)) s'),codeAny c.M A (.call (.ref 770) ⟨[.ref q.ca,.int key kt,v],[]⟩) R s
set_option maxHeartbeats 2000000 in
theorem U_put {rs:List (It × Value)}{rows data:List (Int × Value)}{os:List It}{m n t t0 m0 key:Int}{mtk kt:Tok}{v:Value}:@U_put_P c L s A R q od rs rows data os m n t t0 m0 key mtk kt v:=by
 revert c L s A R q od rs rows data os m n t t0 m0 key mtk kt v
 walk_at "e5"; intro c L s A R
 walk_at "e9"; intro q od rs rows data os m n t
 walk_at "e5"; intro t0 m0 key mtk kt
 walk_at "e1"; intro v
 intro S hr hu hh hz hn u hl hroom hm h
 have k1:=u.rlen
 have k2:=u.dlen
 have k3:=u.olen
 have um:=u.m
 refine f_call fn770 [(1,.ref q.ca),(11,.int key kt),(15,v)] S (by lia) (by rfl) (by kernel_rfl!) (by kernel_rfl!) ?_
 intro fr s S
 have F:=fn770
 by_cases hk:key∈rs.map (·.1.k)
 ·have es:stays q.room key rs=rs:=if_pos hk
  have dl:=u.dropLen hk
  rw [es] at h
  walk_at "g"
  rw [decide_eq_false (by lia:¬ q.room<1)]
  walk_at "g"
  refine d_in ‹_› (by walk_at "m") fun s S=>?_
  rw [va_isSome (u.dkeys.symm.subset hk)]
  walk_at "g"
  refine d_set ‹_› (by walk_at "r") (by lia) fun s S=>?_
  walk_at "g"
  rename_i S
  refine h mtk od os rows data _ m _ u (u.laid_old hk) (Nat.le_refl _) hl ?_
  have e:((dropK key rs).length+1:Nat)=m:=by lia
  rw [e]
  exact (S.dropAt (p:=(fr,_)) (by walk_at "k")).perm (by exact .refl _)
 ·have ed:valueAt data key=none:=va_none.mpr fun z=>hk (u.dkeys.subset z)
  by_cases hf:(rs.length:Int)+1≤q.room
  ·have es:stays q.room key rs=rs:=by unfold stays; rw [if_neg hk,if_pos hf]
   rw [es,dropK_none hk] at h
   walk_at "g"
   rw [decide_eq_false (by lia:¬ q.room<1)]
   walk_at "g"
   refine d_in ‹_› (by walk_at "m") fun s S=>?_
   rw [ed]
   walk_at "g"
   refine Br.f ?_
   walk_at "g"
   refine x_while (fun n' s'=>n'=0∧s'=s) 0 ⟨rfl,rfl⟩ fun n' s' hI=>?_
   obtain ⟨rfl,rfl⟩:=hI
   walk_at "g"
   rw [decide_eq_false (by lia:¬ q.room<m+1)]
   walk_at "g"
   refine d_set ‹_› (by walk_at "r") (by lia) fun s S=>?_
   walk_at "g"
   rename_i S
   have e:((rs.length+1:Nat):Int)=m+1:=by lia
   rw [e] at h
   exact h _ od os rows data _ m _ u (u.laid_new hk) (Nat.le_refl _) hl ((S.dropAt (p:=(fr,_)) (by walk_at "k")).perm (by exact ixd [0,0] rfl))
  ·have es:stays q.room key rs=rs.tail:=by unfold stays; rw [if_neg hk,if_neg hf]
   rw [es] at h
   cases rs with
   | nil=>exact absurd (by show (0:Int)+1≤_; lia) hf
   | cons r rest =>
    rw [List.tail_cons] at h
    have hk2:key ∉ rest.map (·.1.k):=fun z=>hk (.tail _ z)
    rw [dropK_none hk2] at h
    rw [List.length_cons] at hf um k1 k2 k3
    walk_at "g"
    rw [decide_eq_false (by lia:¬ q.room<1)]
    walk_at "g"
    refine d_in ‹_› (by walk_at "m") fun s S=>?_
    rw [ed]
    walk_at "g"
    refine Br.f ?_
    walk_at "g"
    refine x_while (fun n' s2=>(n'=1∧s2=s)∨(n'=0∧∃ tk od' os' rows' data' m',UI rest os' rows' data' m'∧os'.length≤os.length∧(∀ x∈os',t<x.e)∧St c ((fr,Nm [(2,.int q.room q.rtk),(17,.none),(16,.ref q.dd),(15,v),(11,.int key kt),(1,.ref q.ca)])::(q.ca,InstP 1373 q.cd)::(q.cd,Dm (q.D (.int m' tk) od'))::(q.dd,DI c data')::(q.it,DI c rows')::(q.tm,InstP 929 q.td)::(q.td,Tmr q.K.clk n t) ::
     (od',LiP (irefs os'))::(itCells os'++(q.K.G t0 m0++L))) s2)) 1 (.inl ⟨rfl,rfl⟩) fun n' s2 hI=>?_
    rcases hI with ⟨rfl,rfl⟩ | ⟨rfl,tk,od',os',rows',data',m',u',hl',ha',S⟩
    ·walk_at "g"
     rw [decide_eq_true (by lia:q.room<m+1)]
     walk_at "g"
     refine g_meth ‹_› (by walk_at "m") (by walk_at "c") (by walk_at "m") (by walk_at "i") (by rfl) (by rfl) ?_
     refine To.K keep1355 ?_
     walk_at "g"
     have S:=St.perm (L':=(q.ca,InstP 1373 q.cd)::(q.cd,Dm (q.D (.int m mtk) od))::(q.dd,DI c data)::(q.it,DI c rows)::(q.tm,InstP 929 q.td)::(q.td,Tmr q.K.clk n t)::(od,LiP (irefs os))::(itCells os++(q.K.G t0 m0++((fr,Nm [(2,.int q.room q.rtk),(17,.none),(16,.ref q.dd),(15,v),(11,.int key kt),(1,.ref q.ca)])::L)))) ‹_› (by walk_at "d")
     have S:=S.weak (a:=q.td) (P':=Tms q.K.clk n t) (by walk_at "r") fun o z=>Tms.of z
     refine ⟨⟨_,S⟩,U_popitem (q:=q) (t':=t) (t0':=t0) (m0':=m0) S (by rw [depth_deeper]; lia) (by show A.units+3+20<_; lia) hh hz (by lia) (.inl ⟨by lia,rfl,rfl,rfl⟩) u (alive_all (u.liveAll hl)) ?_⟩
     intro x ktk tk' od' os' rows' data' m' s u' l' a' S
     have S:=S.drop
     have S:=S.weak (a:=q.td) (P':=Tmr q.K.clk n t) (by walk_at "r") fun o z=>(Tms.pos (by lia)).mp z
     walk_at "g"
     exact ⟨0,by lia,.inr ⟨rfl,tk',od',os',rows',data',m',u',l',a',S.perm (by walk_at "d")⟩⟩
    ·have um':=u'.m
     have k2':=u'.dlen
     have k3':=u'.olen
     walk_at "g"
     rw [decide_eq_false (by lia:¬ q.room<m'+1)]
     walk_at "g"
     refine d_set ‹_› (by walk_at "r") (by lia) fun s S=>?_
     walk_at "g"
     rename_i S
     have e:((rest.length+1:Nat):Int)=m'+1:=by lia
     rw [e] at h
     exact h _ od' os' rows' data' _ m' _ u' (u'.laid_new hk2) hl' ha' ((S.dropAt (p:=(fr,_)) (by walk_at "k")).perm (by exact ixd [0,0] rfl))
end
end
section
section
variable {q:UCfg c}{od:Addr}{env:Env}{fr:Addr}
theorem make1282 (P:Params):makeOk (Mine.K P) 1282 1271=true:=by kernel_rfl!
theorem keepC1282 (P:Params):keepIn (Mine.K P) (.ref 1282)=true:=by kernel_rfl!
theorem mc1282 (P:Params):mcOk (Mine.K P) 1373 (.ref 124) "_Item" (.ref 1282)=true:=by kernel_rfl!
theorem ttu_usual (P:Params):usualIn (Mine.K P) 1373 "_TLRUCache__ttu" = true:=by kernel_rfl!
noncomputable def U_item_new_P (k e:Int) (kt et:Tok):Prop:=∀ (S:St c L s) (hr:A.depth+1<recursionLimit) (h:∀ x dx s',St c ((x,SlP 1282 dx [some (.int e et),some (.int k kt),some (.bool false)])::(dx,Dm [])::L) s'→R (.ok (.ret (.ref x))) s'),codeAny c.M A (.call (.ref 1282) ⟨[.int k kt,.int e et],[]⟩) R s
theorem U_item_new {k e:Int}{kt et:Tok}:@U_item_new_P c L s A R k e kt et:=by
 revert c L s A R k e kt et
 walk_at "e9"; intro c L s A R k e kt et
 intro S hr h
 refine c_make S make1282 fun x dx s S=>?_
 have S:=S.weak (P':=SlP 1282 dx []) .here fun o h=>h
 refine f_call fn1271 [(1,.ref x),(11,.int k kt),(47,.int e et)] S hr (by rfl) (by kernel_rfl!) (by kernel_rfl!) ?_
 intro fr s S
 have F:=fn1271
 walk_at "g"
 rename_i S
 refine InitBack.ok (h x dx _ ?_)
 exact (S.dropAt (p:=(fr,_)) (by walk_at "k")).perm (by exact ixd [0] rfl)
theorem To.until {U:Un c}{k v t:Int}{kt vt tt:Tok}{pos:Pos}{a1 a2 a3:Expr}{Q:Value→Shared→Prop} (hr:A.depth<recursionLimit)
  (h:Ev c A env E [a1,a2,a3] (fun vs s₁=>vs=[.int k kt,.int v vt,.int t tt]∧∃ L L',St c L s₁∧PickG U.G L L'∧∀ tk s',St c (U.G++L') s'→Q (.int (t+U.last) tk) s') s):To c A env pos (.ref U.fn) [] [a1,a2,a3] Q E s :=
 callWith_function (o:=U.o) (fd:=U.fd) (Ev.args (h.mono fun vs s₁ z=>by
  obtain ⟨rfl,L,L',S,hp,z⟩:=z
  have S':=S.pickG hp
  exact ⟨⟨U.isfn S',U.isfd⟩,x_code (U.call S' hr fun tk s' S=>z tk s' S)⟩))
theorem dl_over (l:List (Int × Value)) (k:Int) (a b:Value):stored (without l k++[(k,a)]) k b=without l k++[(k,b)]:=by
 unfold stored
 rw [if_pos (by simp),List.map_append]
 congr 1
 ·have:∀ x∈without l k,(fun kv:Int × Value=>if kv.1=k then (kv.1,b) else kv) x=id x:=fun x hx=>if_neg (by simpa using (List.mem_filter.mp hx).2)
  rw [List.map_congr_left this,List.map_id]
 ·simp
noncomputable def UI.lay_P (rs2:List (It × Value)) (os' os'':List It) (rows' rows'' data' dataOld:List (Int × Value)) (mOld key:Int) (v:Value) (x:It):Prop:=∀ (u:UI rs2 os' rows' dataOld mOld) (hd:Laid key v rs2 data') (hk:x.k=key) (hr:x.rm=false) (hp:Hp os''.length 0 (fOf os'')) (h:(key ∉ rs2.map (·.1.k) ∧ rows''=stored rows' key (.ref x.a) ∧ os''.Perm (os' ++ [x])) ∨
   (∃ x0 v0 us vs,(x0,v0)∈rs2∧x0.k=key∧os'=us++x0::vs∧rows''=stored (stored (without rows' key) key (.ref x0.a)) key (.ref x.a)∧os''.Perm ((us++x0.gone::vs)++[x]))),UI (dropK key rs2++[(x,v)]) os'' rows'' data' ((dropK key rs2).length+1:Nat)
theorem UI.lay {rs2:List (It × Value)}{os' os'':List It}{rows' rows'' data' dataOld:List (Int × Value)}{mOld key:Int}{v:Value}{x:It}:@UI.lay_P rs2 os' os'' rows' rows'' data' dataOld mOld key v x:=by
 revert rs2 os' os'' rows' rows'' data' dataOld mOld key v x
 walk_at "e9"; intro rs2 os' os'' rows' rows'' data' dataOld mOld key
 walk_at "e2"; intro v x
 intro u hd hk hr hp h
 have lx:lives [x]=[x]:=by unfold lives; rw [List.filter_cons_of_pos (by simp [hr])]; rfl
 refine ⟨?_,?_,?_,?_,hp,?_⟩
 ·rcases h with ⟨h1,h2,h3⟩ | ⟨x0,v0,us,vs,h1,h2,h3,h4,h5⟩
  ·have:valueAt rows' key=none:=va_none.mpr (by rw [u.rkeys]; exact h1)
   rw [h2,st_new this,dropK_none h1,u.rows,List.map_append,List.map_singleton,hk]
  ·rw [h4,dl_moved,dl_over,u.rows,rows_drop,List.map_append,List.map_singleton,hk]
 ·unfold Laid at hd
  rw [List.map_append,List.map_singleton,hk]
  exact hd
 ·rw [List.map_append,List.map_singleton]
  rcases h with ⟨h1,h2,h3⟩ | ⟨x0,v0,us,vs,h1,h2,h3,h4,h5⟩
  ·have e:lives (os'++[x])=lives os'++[x]:=by rw [lives_app,lx]
   have:=h3.filter fun x=>!x.rm
   rw [dropK_none h1]
   exact (this.trans (.of_eq e)).trans (u.lv.append_right _)
  ·have e:lives ((us++x0.gone::vs)++[x])=lives (us++x0.gone::vs)++[x]:=by rw [lives_app,lx]
   have:=h5.filter fun x=>!x.rm
   subst h3
   have ud:=u.del h1
   rw [h2] at ud
   exact (this.trans (.of_eq e)).trans (ud.lv.append_right _)
 ·rw [List.map_append,List.map_singleton,List.nodup_append]
  refine ⟨(List.filter_sublist.map _).nodup u.nd,by simp,fun a ha b hb=>?_⟩
  rw [List.mem_singleton] at hb
  subst hb
  obtain ⟨r,hr,rfl⟩:=List.mem_map.mp ha
  have:=(List.mem_filter.mp hr).2
  rw [hk]
  simpa using this
 ·rw [List.length_append]; rfl
noncomputable def U_setitem_P (rs:List (It × Value)) (rows data:List (Int × Value)) (os:List It) (m n t t0 m0 t' t0' m0' key v:Int) (mtk kt vt:Tok):Prop:=∀ (S:St c ((q.ca,InstP 1373 q.cd)::(q.cd,Dm (q.D (.int m mtk) od))::(q.dd,DI c data)::(q.it,DI c rows)::(q.tm,InstP 929 q.td)::(q.td,Tms q.K.clk n t)::(od,LiP (irefs os))::(itCells os++(q.K.G t0 m0++(q.U.G++L)))) s) (hr:A.depth+7<recursionLimit) (hu:A.units+40<cLine) (hh:A.handled=none) (hz:os.length≤700) (hn:0≤n) (hm:Mv q.K n t t0 m0 t' t0' m0') (u:UI rs os rows data m) (hroom:1≤q.room) (hml:((alive t' rs).length:Int)≤q.room) (hlast:0<q.U.last) (h:∀ x tk od' os' rows' data' s',x.k=key→x.e=t'+q.U.last→UI (dropK key (stays q.room key (alive t' rs))++[(x,.int v vt)]) os' rows' data' ((dropK key (stays q.room key (alive t' rs))).length+1:Nat)→os'.length≤os.length+1→St c ((q.ca,InstP 1373 q.cd)::(q.cd,Dm (q.D (.int ((dropK key (stays q.room key (alive t' rs))).length+1:Nat) tk) od'))::(q.dd,DI c data')::(q.it,DI c rows')::(q.tm,InstP 929 q.td)::(q.td,Tms q.K.clk n t')::(od',LiP (irefs os'))::(itCells os'++(q.K.G t0' m0'++(q.U.G++L)))) s'→R (.ok (.ret .none)) s'),codeAny c.M A (.call (.ref 1319) ⟨[.ref q.ca,.int key kt,.int v vt],[]⟩) R s
set_option maxHeartbeats 4000000 in
theorem U_setitem {rs:List (It × Value)}{rows data:List (Int × Value)}{os:List It}{m n t t0 m0 t' t0' m0' key v:Int}{mtk kt vt:Tok}:@U_setitem_P c L s A R q od rs rows data os m n t t0 m0 t' t0' m0' key v mtk kt vt:=by
 revert c L s A R q od rs rows data os m n t t0 m0 t' t0' m0' key v mtk kt vt
 walk_at "e5"; intro c L s A R
 walk_at "e9"; intro q od rs rows data os m n t
 walk_at "e9"; intro t0 m0 t' t0' m0' key v mtk kt
 walk_at "e1"; intro vt
 intro S hr hu hh hz hn hm u hroom hml hlast h
 refine f_call fn1319 [(1,.ref q.ca),(11,.int key kt),(15,.int v vt),(63,.ref 770)] S (by lia) (by rfl) (by kernel_rfl!) (by kernel_rfl!) ?_
 intro fr s S
 have F:=fn1319
 refine x_cons ?_
 refine x_wN ?_
 walk_at "g"
 refine eu_timer S (by walk_at "m") (by walk_at "m") (by rw [depth_deeper]; lia) fun s S=>?_
 refine ⟨_,_,_,_,rfl,S,by exact ixm 5 rfl,by exact ixm 6 rfl,?_⟩
 refine timer_enter (St.pick2G S (by walk_at "k") (by walk_at "k") (by walk_at "K")) (by rw [depth_deeper]; lia) hm fun ttk s S=>?_
 walk_at "g"
 refine g_meth ‹_› (by exact ixn 2 1 rfl rfl) (by walk_at "c") (by exact ixn 2 2 rfl rfl) (by walk_at "i") (by rfl) (by rfl) ?_
 refine To.K keep1348 ?_
 walk_at "g"
 have S:=St.perm (L':=(q.ca,InstP 1373 q.cd)::(q.cd,Dm (q.D (.int m mtk) od))::(q.dd,DI c data)::(q.it,DI c rows)::(od,LiP (irefs os))::(itCells os++((q.tm,InstP 929 q.td)::(q.td,Tmr q.K.clk (n+1) t')::(q.K.G t0' m0'++(q.U.G++((fr,Nm [(35,.int t' ttk),(63,.ref 770),(15,.int v vt),(11,.int key kt),(1,.ref q.ca)])::L)))))) ‹_› (by walk_at "d")
 refine ⟨⟨_,S⟩,U_expire (q:=q) S (by rw [depth_deeper]; lia) (by show A.units+3+10<_; lia) hh (by lia) u ?_⟩
 intro xl tk od1 os1 rows1 data1 m1 told s u1 l1 a1 e1 S
 have S:=S.drop.dropG
 have k1:=u1.rlen
 have k2:=u1.dlen
 have k3:=u1.olen
 have km:=u1.m
 walk_at "g"
 refine g_usual ‹_› (by walk_at "m") (by walk_at "m") ttu_usual ?_
 walk_at "g"
 refine To.until (U:=q.U) (k:=key) (v:=v) (t:=t') (kt:=kt) (vt:=vt) (tt:=ttk) (by rw [depth_deeper]; lia) ?_
 walk_at "g"
 refine ⟨rfl,_,_,by assumption,by walk_at "K", fun tke s S=>?_⟩
 walk_at "g"
 rw [decide_eq_true (by lia:t'<t'+q.U.last)]
 walk_at "g"
 refine Br.f ?_
 walk_at "g"
 refine To.K keep770 ?_
 walk_at "g"
 have S:=St.perm (L':=(q.ca,InstP 1373 q.cd)::(q.cd,Dm (q.D (.int m1 tk) od1))::(q.dd,DI c data1)::(q.it,DI c rows1)::(q.tm,InstP 929 q.td)::(q.td,Tmr q.K.clk (n+1) t')::(od1,LiP (irefs os1))::(itCells os1++(q.K.G t0' m0'++(q.U.G++((fr,Nm [(47,.int (t'+q.U.last) tke),(35,.int t' ttk),(63,.ref 770),(15,.int v vt),(11,.int key kt),(1,.ref q.ca)])::L))))) ‹_› (by walk_at "d")
 refine ⟨⟨_,S⟩,U_put (q:=q) S (by rw [depth_deeper]; lia) (by show A.units+3+30<_; lia) hh (by lia) (by lia) u1 a1 hroom (by lia) ?_⟩
 intro tk2 od2 os2 rows2 dataOld data2 mOld s u2 hd2 l2 a2 S
 have j1:=u2.rlen
 have j3:=u2.olen
 walk_at "g"
 refine timer_exit (St.pick2 S (by walk_at "k") (by walk_at "k")) (by rw [depth_deeper]; lia) fun s S=>?_
 generalize hst:stays q.room key (alive t' rs)=rs2 at u2 hd2 S h j1 j3
 generalize hln:(((dropK key rs2).length+1:Nat):Int)=ln at S h
 walk_at "g"
 refine d_get1 ‹_› (by exact ixm 5 rfl) fun s S=>?_
 walk_at "go"
 walk_at "go"
 refine x_cut (fun s=>∃ os3 rows3 w,((key ∉ rs2.map (·.1.k)∧rows3=rows2∧os3=os2) ∨
   (∃ x0 v0 us vs,(x0,v0)∈rs2∧x0.k=key∧os2=us++x0::vs∧rows3=stored (without rows2 key) key (.ref x0.a)∧os3=us++x0.gone::vs))∧irefs os3=irefs os2∧fOf os3=fOf os2∧os3.length=os2.length∧rows3.length≤900 ∧
   St c ((fr,Nm [(79,w),(80,.ref q.it),(47,.int (t'+q.U.last) tke),(35,.int t' ttk),(63,.ref 770),(15,.int v vt),(11,.int key kt),(1,.ref q.ca)])::(q.ca,InstP 1373 q.cd)::(q.cd,Dm (q.D (.int ln tk2) od2))::(q.dd,DI c data2)::(q.it,DI c rows3)::(q.tm,InstP 929 q.td)::(q.td,Tms q.K.clk n t')::(od2,LiP (irefs os3))::(itCells os3++(q.K.G t0' m0'++(q.U.G++L)))) s) ?_ ?_
 ·rename_i S
  by_cases hk:key∈rs2.map (·.1.k)
  ·obtain ⟨⟨x0,v0⟩,hr2,hk0⟩:=List.mem_map.mp hk
   dsimp only at hk0
   have hw:=u2.atR hr2
   rw [hk0] at hw
   obtain ⟨us,vs,rfl⟩:=List.append_of_mem (u2.inO hr2).1
   simp only [hw,Option.getD_some] at S
   simp only [itCells_app,itCells,List.append_assoc,List.cons_append] at S
   walk_at "g"
   refine d_pop ‹_› (by walk_at "r") hw (by lia) fun s S=>?_
   walk_at "g"
   have hzw:(without rows2 key).length≤900:=Nat.le_trans (List.length_filter_le _ _) (by lia)
   refine d_set ‹_› (by walk_at "r") (by lia) fun s S=>?_
   walk_at "g"
   rename_i S
   have e1:irefs (us++x0.gone::vs)=irefs (us++x0::vs):=by unfold irefs; simp [It.gone]
   refine Nxt.ok ⟨us++x0.gone::vs,_,.ref x0.a,.inr ⟨x0,v0,us,vs,hr2,hk0,rfl,rfl,rfl⟩,e1,fOf_gone,by simp [List.length_append],?_,?_⟩
   ·rw [dl_moved,List.length_append]
    have:(without rows2 key).length≤rows2.length:=without_len
    simp only [List.length_cons,List.length_nil]
    lia
   ·rw [e1]
    simp only [itCells_app,itCells,List.append_assoc,List.cons_append]
    exact S.perm (by walk_at "d")
  ·have hw:valueAt rows2 key=none:=va_none.mpr (by rw [u2.rkeys]; exact hk)
   simp only [hw,Option.getD_none] at S
   walk_at "g"
   rename_i S
   refine Nxt.ok ⟨os2,rows2,.none,.inl ⟨hk,rfl,rfl⟩,rfl,rfl,rfl,by lia,?_⟩
   exact S.perm (by walk_at "d")
 ·intro s hI
  obtain ⟨os3,rows3,w,h1,h2,h3,h4,h5,S⟩:=hI
  walk_at "g"
  refine m_cls ‹_› mc1282 fun s S=>?_
  refine To.K keepC1282 ?_
  walk_at "g"
  refine ⟨⟨_,by assumption⟩,U_item_new ‹_› (by rw [depth_deeper]; lia) fun a dx s S=>?_⟩
  walk_at "g"
  refine d_set ‹_› (by walk_at "r") (by lia) fun s S=>?_
  walk_at "g"
  rename_i S
  have S:=St.pick (p:=(od2,LiP (irefs os3))) S (by walk_at "k")
  have len3:os3.length≤800:=by lia
  refine x_code (h_push (x:=⟨a,dx,t'+q.U.last,tke,key,kt,false⟩) S (by rw [depth_deeper]; lia) (by show A.units+3+1<_; lia) (by walk_at "m") (fun y hy=>by
   obtain ⟨m1,m2⟩:=itCells_has hy
   exact ⟨by walk_at "m", by walk_at "m"⟩) ⟨by walk_at "m", by walk_at "m"⟩ (by rw [h4,h3]; exact u2.hp) len3 fun hs' s hp' hH' S=>?_)
  walk_at "g"
  have S:=S.dropAt (p:=(fr,_)) (by walk_at "k")
  have S1:St c (itCells (os3++[⟨a,dx,t'+q.U.last,tke,key,kt,false⟩])++((q.ca,InstP 1373 q.cd)::(q.cd,Dm (q.D (.int ln tk2) od2))::(q.dd,DI c data2)::(q.it,DI c (stored rows3 key (.ref a)))::(q.tm,InstP 929 q.td)::(q.td,Tms q.K.clk n t')::(od2,LiP (irefs hs'))::(q.K.G t0' m0'++(q.U.G++L)))) s:=by
   simp only [itCells_app,itCells,List.append_assoc,List.cons_append,List.nil_append]
   exact S.perm (by walk_at "d")
  have S2:=S1.perm ((itCells_perm hp').append_right _)
  have ul:=u2.lay (x:=⟨a,dx,t'+q.U.last,tke,key,kt,false⟩) (os'':=hs') (rows'':=stored rows3 key (.ref a)) hd2 rfl rfl hH' (by
   rcases h1 with ⟨z1,rfl,rfl⟩ | ⟨x0,v0,us,vs,z1,z2,z3,rfl,rfl⟩
   ·exact .inl ⟨z1,rfl,hp'⟩
   ·exact .inr ⟨x0,v0,us,vs,z1,z2,z3,rfl,hp'⟩)
  rw [hln] at ul
  have l6:=hp'.length_eq
  rw [List.length_append,List.length_singleton] at l6
  exact h _ tk2 od2 hs' _ data2 _ rfl rfl ul (by lia) (S2.perm (by walk_at "d"))
end
end
section
section
variable {q:UCfg c}{od:Addr}{env:Env}{fr:Addr}
theorem d_popMiss {d:Addr}{kvs:List (Int × Value)}{k:Int}{t:Tok}{Q:Value→Shared→Prop} (S:St c L s) (hd:(d,DI c kvs)∈L) (hh:A.handled=none) (hl:valueAt kvs k=none)
  (h:∀ h' e tk,Heap.NewExc s.heap h' e "KeyError" → E (.ref e) ⟨h',s.gens,s.drawn,tk,s.os⟩) :
  wpAny c.M A (call (.builtin "dict.pop") [.ref d,.int k t]) Q E s :=
 call_meetsIn PySem.F.slot_dict_pop (S.di hd).typeIs PySem.F.entry_dict_pop (PySem.F.args_dict_pop_2 _ _) (meets_dict_pop_missing (intKind pw c.w) d (intKind_is _ _ k t) (S.notMods hd) rfl) ⟨hh,kvs,S.di hd,hl,fun h' e x=>h h' e _ x⟩
theorem keep1370 (P:Params):keepIn (Mine.K P) (.ref 1370)=true:=by kernel_rfl!
noncomputable def U_drop_no_P (rows:List (Int × Value)) (cs:Value) (kt:Tok) (key:Int):Prop:=∀ (S:St c ((q.ca,InstP 1373 q.cd)::(q.cd,Dm (q.D cs od))::(q.it,DI c rows)::L) s) (H:Frs A L) (hh:A.handled=none) (hr:A.depth<recursionLimit) (hl:valueAt rows key=none) (h:∀ s',St c ((q.ca,InstP 1373 q.cd)::(q.cd,Dm (q.D cs od))::(q.it,DI c rows)::L) s'→R (.ok (.ret .none)) s'),codeAny c.M A (.call (.ref 1370) ⟨[.ref q.ca,.int key kt],[]⟩) R s
theorem U_drop_no {rows:List (Int × Value)}{cs:Value}{kt:Tok}{key:Int}:@U_drop_no_P c L s A R q od rows cs kt key:=by
 revert c L s A R q od rows cs kt key
 walk_at "e5"; intro c L s A R
 walk_at "e5"; intro q od rows cs kt
 walk_at "e1"; intro key
 intro S H hh hr hl h
 refine f_call fn1370 [(1,.ref q.ca),(11,.int key kt),(64,.ref 777)] S hr (by rfl) (by kernel_rfl!) (by kernel_rfl!) ?_
 intro fr s S
 have F:=fn1370
 have H1:Frs A ((q.ca,InstP 1373 q.cd)::(q.cd,Dm (q.D cs od))::(q.it,DI c rows)::L):=H.sub fun p hp=>.tail _ (.tail _ (.tail _ hp))
 have H2:=H1.deeper (fr:=fr) (l:=[(1,.ref q.ca),(11,.int key kt),(64,.ref 777)].reverse) F
 have ht:=Top.deeper (env:=envF 1370 fd1370 fr) H1
 walk_at "g"
 refine d_popMiss ‹_› (by walk_at "m") hh hl fun h' e tk x=>?_
 refine hd_new (Nx.of ‹_› ⟨_,.head _,trivial⟩ x rfl) H2 ht rfl fun s X=>?_
 refine by_kind X F (by walk_at "i") (by decide) (by rfl) (by rfl) (by rw [isSubtype_type]; kernel_rfl) (by rw [isSubtype_type]; kernel_rfl) (by rw [isSubtype_type]; kernel_rfl) fun s X=>?_
 walk_at "g"
 refine wpAny_Pass ?_
 walk_at "g"
 exact h _ X.St.drop
noncomputable def U_setitem_due_P (rs:List (It × Value)) (rows data:List (Int × Value)) (os:List It) (m n t t0 m0 t' t0' m0' key v:Int) (mtk kt vt:Tok):Prop:=∀ (S:St c ((q.ca,InstP 1373 q.cd)::(q.cd,Dm (q.D (.int m mtk) od))::(q.dd,DI c data)::(q.it,DI c rows)::(q.tm,InstP 929 q.td)::(q.td,Tms q.K.clk n t)::(od,LiP (irefs os))::(itCells os++(q.K.G t0 m0++(q.U.G++L)))) s) (hr:A.depth+7<recursionLimit) (hu:A.units+40<cLine) (hh:A.handled=none) (H:Frs A L) (hz:os.length≤700) (hn:0≤n) (hm:Mv q.K n t t0 m0 t' t0' m0') (u:UI rs os rows data m) (hlast:q.U.last≤0) (hnone:alive t' rs=[]) (h:∀ tk od' os' rows' data' m' s',UI [] os' rows' data' m'→os'.length≤os.length→St c ((q.ca,InstP 1373 q.cd)::(q.cd,Dm (q.D (.int m' tk) od'))::(q.dd,DI c data')::(q.it,DI c rows')::(q.tm,InstP 929 q.td)::(q.td,Tms q.K.clk n t')::(od',LiP (irefs os'))::(itCells os'++(q.K.G t0' m0'++(q.U.G++L)))) s'→R (.ok (.ret .none)) s'),codeAny c.M A (.call (.ref 1319) ⟨[.ref q.ca,.int key kt,.int v vt],[]⟩) R s
set_option maxHeartbeats 2000000 in
theorem U_setitem_due {rs:List (It × Value)}{rows data:List (Int × Value)}{os:List It}{m n t t0 m0 t' t0' m0' key v:Int}{mtk kt vt:Tok}:@U_setitem_due_P c L s A R q od rs rows data os m n t t0 m0 t' t0' m0' key v mtk kt vt:=by
 revert c L s A R q od rs rows data os m n t t0 m0 t' t0' m0' key v mtk kt vt
 walk_at "e5"; intro c L s A R
 walk_at "e9"; intro q od rs rows data os m n t
 walk_at "e9"; intro t0 m0 t' t0' m0' key v mtk kt
 walk_at "e1"; intro vt
 intro S hr hu hh H hz hn hm u hlast hnone h
 refine f_call fn1319 [(1,.ref q.ca),(11,.int key kt),(15,.int v vt),(63,.ref 770)] S (by lia) (by rfl) (by kernel_rfl!) (by kernel_rfl!) ?_
 intro fr s S
 have F:=fn1319
 refine x_cons ?_
 refine x_wN ?_
 walk_at "g"
 refine eu_timer S (by walk_at "m") (by walk_at "m") (by rw [depth_deeper]; lia) fun s S=>?_
 refine ⟨_,_,_,_,rfl,S,by exact ixm 5 rfl,by exact ixm 6 rfl,?_⟩
 refine timer_enter (St.pick2G S (by walk_at "k") (by walk_at "k") (by walk_at "K")) (by rw [depth_deeper]; lia) hm fun ttk s S=>?_
 walk_at "g"
 refine g_meth ‹_› (by exact ixn 2 1 rfl rfl) (by walk_at "c") (by exact ixn 2 2 rfl rfl) (by walk_at "i") (by rfl) (by rfl) ?_
 refine To.K keep1348 ?_
 walk_at "g"
 have S:=St.perm (L':=(q.ca,InstP 1373 q.cd)::(q.cd,Dm (q.D (.int m mtk) od))::(q.dd,DI c data)::(q.it,DI c rows)::(od,LiP (irefs os))::(itCells os++((q.tm,InstP 929 q.td)::(q.td,Tmr q.K.clk (n+1) t')::(q.K.G t0' m0'++(q.U.G++((fr,Nm [(35,.int t' ttk),(63,.ref 770),(15,.int v vt),(11,.int key kt),(1,.ref q.ca)])::L)))))) ‹_› (by walk_at "d")
 refine ⟨⟨_,S⟩,U_expire (q:=q) S (by rw [depth_deeper]; lia) (by show A.units+3+10<_; lia) hh (by lia) u ?_⟩
 intro xl tk od1 os1 rows1 data1 m1 told s u1 l1 a1 e1 S
 have S:=S.drop.dropG
 rw [hnone] at u1
 walk_at "g"
 refine g_usual ‹_› (by walk_at "m") (by walk_at "m") ttu_usual ?_
 walk_at "g"
 refine To.until (U:=q.U) (k:=key) (v:=v) (t:=t') (kt:=kt) (vt:=vt) (tt:=ttk) (by rw [depth_deeper]; lia) ?_
 walk_at "g"
 refine ⟨rfl,_,_,by assumption,by walk_at "K", fun tke s S=>?_⟩
 walk_at "g"
 rw [decide_eq_false (by lia:¬ t'<t'+q.U.last)]
 refine Br.t ?_
 walk_at "g"
 refine g_meth ‹_› (by exact ixn 0 0 rfl rfl) (by walk_at "c") (by exact ixn 0 1 rfl rfl) (by walk_at "i") (by rfl) (by rfl) ?_
 refine To.K keep1370 ?_
 walk_at "g"
 have S:=St.perm (L':=(q.ca,InstP 1373 q.cd)::(q.cd,Dm (q.D (.int m1 tk) od1))::(q.it,DI c rows1)::((fr,Nm [(47,.int (t'+q.U.last) tke),(35,.int t' ttk),(63,.ref 770),(15,.int v vt),(11,.int key kt),(1,.ref q.ca)])::(q.dd,DI c data1)::(q.tm,InstP 929 q.td)::(q.td,Tmr q.K.clk (n+1) t')::(od1,LiP (irefs os1))::(itCells os1++(q.K.G t0' m0'++(q.U.G++L))))) ‹_› (by walk_at "d")
 refine ⟨⟨_,S⟩,U_drop_no (q:=q) S (Frs.deep F H (.head _) fun p hp=>by walk_at "m") hh (by rw [depth_deeper]; lia) (by rw [u1.rows]; rfl) fun s S=>?_⟩
 walk_at "g"
 refine timer_exit (St.pick2 S (by walk_at "k") (by walk_at "k")) (by rw [depth_deeper]; lia) fun s S=>?_
 walk_at "g"
 exact h tk od1 os1 rows1 data1 m1 _ u1 l1 ((S.dropAt (p:=(fr,_)) (by walk_at "k")).perm (by exact ixd [2,2,3,2] rfl))
noncomputable def U_put_refuse_P (data:List (Int × Value)) (m key:Int) (mtk kt:Tok) (v:Value):Prop:=∀ (S:St c ((q.ca,InstP 1373 q.cd)::(q.cd,Dm (q.D (.int m mtk) od))::(q.dd,DI c data)::L) s) (hr:A.depth<recursionLimit) (H:Frs A L) (hh:A.handled=none) (hroom:q.room<1) (h:∀ e s',Tw c ((q.ca,InstP 1373 q.cd)::(q.cd,Dm (q.D (.int m mtk) od))::(q.dd,DI c data)::L) e (.type "ValueError") .none .none s'→R (.error (.ref e)) s'),codeAny c.M A (.call (.ref 770) ⟨[.ref q.ca,.int key kt,v],[]⟩) R s
theorem U_put_refuse {data:List (Int × Value)}{m key:Int}{mtk kt:Tok}{v:Value}:@U_put_refuse_P c L s A R q od data m key mtk kt v:=by
 revert c L s A R q od data m key mtk kt v
 walk_at "e5"; intro c L s A R
 walk_at "e5"; intro q od data m key
 walk_at "e2"; intro mtk kt
 walk_at "e1"; intro v
 intro S hr H hh hroom h
 refine f_call fn770 [(1,.ref q.ca),(11,.int key kt),(15,v)] S hr (by rfl) (by kernel_rfl!) (by kernel_rfl!) ?_
 intro fr s S
 have F:=fn770
 walk_at "g"
 rw [decide_eq_true hroom]
 walk_at "g"
 refine x_raise excClass_ValueError hh (by rfl) ?_
 walk_at "g"
 refine ⟨rfl,?_⟩
 walk_at "g"
 rename_i S
 refine ⟨_,S,⟨_,.head _,trivial⟩,fun e s' X=>?_⟩
 refine fly_out (.new X) F (Sk.deep F H (.head _) fun p hp=>.tail _ (.tail _ (.tail _ (.tail _ hp)))) fun s' X=>h e s' ?_
 exact X.dropAt .here
noncomputable def U_setitem_refuse_P (rs:List (It × Value)) (rows data:List (Int × Value)) (os:List It) (m n t t0 m0 t' t0' m0' key v:Int) (mtk kt vt:Tok):Prop:=∀ (S:St c ((q.ca,InstP 1373 q.cd)::(q.cd,Dm (q.D (.int m mtk) od))::(q.dd,DI c data)::(q.it,DI c rows)::(q.tm,InstP 929 q.td)::(q.td,Tms q.K.clk n t)::(od,LiP (irefs os))::(itCells os++(q.K.G t0 m0++(q.U.G++L)))) s) (hr:A.depth+7<recursionLimit) (hu:A.units+40<cLine) (hh:A.handled=none) (H:Frs A L) (hz:os.length≤700) (hn:0≤n) (hm:Mv q.K n t t0 m0 t' t0' m0') (u:UI rs os rows data m) (hlast:0<q.U.last) (hroom:q.room<1) (h:∀ tk od' os' rows' data' m' e s',UI (alive t' rs) os' rows' data' m'→os'.length≤os.length→Tw c ((q.ca,InstP 1373 q.cd)::(q.cd,Dm (q.D (.int m' tk) od'))::(q.dd,DI c data')::(q.it,DI c rows')::(q.tm,InstP 929 q.td)::(q.td,Tms q.K.clk n t')::(od',LiP (irefs os'))::(itCells os'++(q.K.G t0' m0'++(q.U.G++L)))) e (.type "ValueError") .none .none s'→R (.error (.ref e)) s'),codeAny c.M A (.call (.ref 1319) ⟨[.ref q.ca,.int key kt,.int v vt],[]⟩) R s
set_option maxHeartbeats 2000000 in
theorem U_setitem_refuse {rs:List (It × Value)}{rows data:List (Int × Value)}{os:List It}{m n t t0 m0 t' t0' m0' key v:Int}{mtk kt vt:Tok}:@U_setitem_refuse_P c L s A R q od rs rows data os m n t t0 m0 t' t0' m0' key v mtk kt vt:=by
 revert c L s A R q od rs rows data os m n t t0 m0 t' t0' m0' key v mtk kt vt
 walk_at "e5"; intro c L s A R
 walk_at "e9"; intro q od rs rows data os m n t
 walk_at "e9"; intro t0 m0 t' t0' m0' key v mtk kt
 walk_at "e1"; intro vt
 intro S hr hu hh H hz hn hm u hlast hroom h
 refine f_call fn1319 [(1,.ref q.ca),(11,.int key kt),(15,.int v vt),(63,.ref 770)] S (by lia) (by rfl) (by kernel_rfl!) (by kernel_rfl!) ?_
 intro fr s S
 have F:=fn1319
 refine x_cons ?_
 refine x_wE (fr:=fr) ?_
 walk_at "g"
 refine eu_timer S (by walk_at "m") (by walk_at "m") (by rw [depth_deeper]; lia) fun s S=>?_
 refine ⟨_,_,_,_,rfl,S,by exact ixm 5 rfl,by exact ixm 6 rfl,?_⟩
 refine timer_enter (St.pick2G S (by walk_at "k") (by walk_at "k") (by walk_at "K")) (by rw [depth_deeper]; lia) hm fun ttk s S=>?_
 walk_at "g"
 refine g_meth ‹_› (by exact ixn 2 1 rfl rfl) (by walk_at "c") (by exact ixn 2 2 rfl rfl) (by walk_at "i") (by rfl) (by rfl) ?_
 refine To.K keep1348 ?_
 walk_at "g"
 have S:=St.perm (L':=(q.ca,InstP 1373 q.cd)::(q.cd,Dm (q.D (.int m mtk) od))::(q.dd,DI c data)::(q.it,DI c rows)::(od,LiP (irefs os))::(itCells os++((q.tm,InstP 929 q.td)::(q.td,Tmr q.K.clk (n+1) t')::(q.K.G t0' m0'++(q.U.G++((fr,Nm [(35,.int t' ttk),(63,.ref 770),(15,.int v vt),(11,.int key kt),(1,.ref q.ca)])::L)))))) ‹_› (by walk_at "d")
 refine ⟨⟨_,S⟩,U_expire (q:=q) S (by rw [depth_deeper]; lia) (by show A.units+3+10<_; lia) hh (by lia) u ?_⟩
 intro xl tk od1 os1 rows1 data1 m1 told s u1 l1 a1 e1 S
 have S:=S.drop.dropG
 walk_at "g"
 refine g_usual ‹_› (by walk_at "m") (by walk_at "m") ttu_usual ?_
 walk_at "g"
 refine To.until (U:=q.U) (k:=key) (v:=v) (t:=t') (kt:=kt) (vt:=vt) (tt:=ttk) (by rw [depth_deeper]; lia) ?_
 walk_at "g"
 refine ⟨rfl,_,_,by assumption,by walk_at "K", fun tke s S=>?_⟩
 walk_at "g"
 rw [decide_eq_true (by lia:t'<t'+q.U.last)]
 refine Br.f ?_
 walk_at "g"
 refine To.K keep770 ?_
 walk_at "g"
 have S:=St.perm (L':=(q.ca,InstP 1373 q.cd)::(q.cd,Dm (q.D (.int m1 tk) od1))::(q.dd,DI c data1)::((fr,Nm [(47,.int (t'+q.U.last) tke),(35,.int t' ttk),(63,.ref 770),(15,.int v vt),(11,.int key kt),(1,.ref q.ca)])::(q.it,DI c rows1)::(q.tm,InstP 929 q.td)::(q.td,Tmr q.K.clk (n+1) t')::(od1,LiP (irefs os1))::(itCells os1++(q.K.G t0' m0'++(q.U.G++L))))) ‹_› (by walk_at "d")
 have K:∀ {L'},(fr,Nm [(47,.int (t'+q.U.last) tke),(35,.int t' ttk),(63,.ref 770),(15,.int v vt),(11,.int key kt),(1,.ref q.ca)])∈L'→(∀ p∈L,p∈L')→Sk (A.deeper (envF 1319 fd1319 fr)) (envF 1319 fd1319 fr) fr L':=fun hm hs=>Sk.deep F H hm hs
 refine ⟨⟨_,S⟩,U_put_refuse (q:=q) S (by rw [depth_deeper]; lia) (Frs.deep F H (.head _) fun p hp=>by walk_at "m") hh hroom fun e s X=>?_⟩
 refine ⟨e,_,_,_,rfl,.next X,K (by walk_at "m") (fun p hp=>by walk_at "m"),fun s1 X tb=>?_⟩
 refine exit_tw X (by walk_at "k") (by walk_at "k") (by show A.depth+1<_; lia) fun s2 X=>⟨rfl,_,X,fun s3 X=>?_⟩
 refine fly_out (.held X) F (K (by exact ixm 5 rfl) fun p hp=>by walk_at "m") fun s' X=>h tk od1 os1 rows1 data1 m1 e s' u1 l1 ?_
 have X:=X.dropAt (p:=(fr,_)) (by walk_at "k")
 exact X.perm (by exact ixd [2,2,2,2] rfl)
end
end
section
section
variable {q:UCfg c}{od:Addr}{env:Env}{fr:Addr}
noncomputable abbrev HX (fr ca ta ka:Addr) (a b:Value):List Cell:=[(fr,Nm [(46,.ref ka),(45,.ref ta),(1,.ref ca)]),(ta,TuP [a,b]),(ka,EmD)]
noncomputable def Hout (c:Cx) (tm td clk:Addr) (t:Int) (H L:List Cell) (R:Result→Shared→Prop) (r:Result) (s:Shared):Prop :=
 (∃ v L1,r=.ok (.ret v)∧St c (H++(tm,InstP 929 td)::(td,Tmr clk 1 t)::L1) s∧∀ s',St c ((tm,InstP 929 td)::(td,Tm0 clk)::L1) s'→R (.ok (.ret v)) s') ∨
 (∃ e cls x2 L1,r=.error (.ref e)∧(∀ p∈L,p∈L1)∧Tw c (H++(tm,InstP 929 td)::(td,Tmr clk 1 t)::L1) e cls .none x2 s∧∀ s',Tw c ((tm,InstP 929 td)::(td,Tm0 clk)::L1) e cls .none x2 s'→R (.error (.ref e)) s')
noncomputable def bodyW (nm:Str) (l d:Nat):List Stmt:=[.With [⟨.Attribute (.Name "self" ⟨l,13,l,17⟩) "_TimedCache__timer" ⟨l,13,l,25⟩,none⟩] [.Return (some (.Call (.Attribute (.Name "Cache" ⟨l+1,19,l+1,24⟩) nm ⟨l+1,19,l+1,28+d⟩) [.Name "self" ⟨l+1,29+d,l+1,33+d⟩,.Starred (.Name "args" ⟨l+1,36+d,l+1,40+d⟩) ⟨l+1,35+d,l+1,40+d⟩] [⟨none,.Name "kwargs" ⟨l+1,44+d,l+1,50+d⟩,⟨l+1,42+d,l+1,50+d⟩⟩] ⟨l+1,19,l+1,51+d⟩)) ⟨l+1,12,l+1,51+d⟩] ⟨l,8,l+1,51+d⟩]
noncomputable def Wgen_P (f fi:Addr) (fd:FuncData) (nm:Str) (ln d:Nat) (C cd ca tm td:Addr) (tab:List (Nat × AK)) (K:Ck c) (l:List (Nat × Value)) (t0 m0:Int) (a b:Value):Prop:=∀ (F:Fn f fd tb981) (hb:fd.body=.stmts (bodyW nm ln d)) (bnd:bindArgs fd ⟨[.ref ca, a, b], []⟩=(do let t ← newTuple [a, b]; let d ← newDict; pure [(nmv 1, .ref ca), (nmv 45, t), (nmv 46, d)])) (hc:∀ P, clsOk (Mine.K P) 865 (.ref 124) nm (.ref fi)=true) (hk:∀ P, keepIn (Mine.K P) (.ref fi)=true) (HC:Cls C tab) (h39:tab.lookup 39=some .own) (hl:l.lookup 39=some (.ref tm)) (S:St c ((ca, InstP C cd) :: (cd, Dm l) :: (tm, InstP 929 td) :: (td, Tm0 K.clk) :: (K.G t0 m0 ++ L)) s) (hr:A.depth+9<recursionLimit) {Lf:List Cell} (H:Frs A Lf) (hsub:∀ p ∈ Lf, p ∈ L) (h:∀ A' fr ta ka s', A'.depth=A.depth+1 → A'.units=A.units+3 → A'.handled=A.handled → Frs A' (HX fr ca ta ka a b ++ Lf) →
   St c ((ca,InstP C cd)::(cd,Dm l)::(tm,InstP 929 td)::(td,Tmr K.clk 1 (t0+K.step))::(K.G (t0+K.step) (m0+1)++(HX fr ca ta ka a b++L))) s' →
   codeAny c.M A' (.call (.ref fi) ⟨[.ref ca,a,b],[]⟩) (Hout c tm td K.clk (t0+K.step) (HX fr ca ta ka a b) Lf R) s'),codeAny c.M A (.call (.ref f) ⟨[.ref ca,a,b],[]⟩) R s
set_option maxHeartbeats 2000000 in
theorem Wgen {f fi:Addr}{fd:FuncData}{nm:Str}{ln d:Nat}{C cd ca tm td:Addr}{tab:List (Nat × AK)}{K:Ck c}{l:List (Nat × Value)}{t0 m0:Int}{a b:Value}:@Wgen_P c L s A R f fi fd nm ln d C cd ca tm td tab K l t0 m0 a b:=by
 revert c L s A R f fi fd nm ln d C cd ca tm td tab K l t0 m0 a b
 walk_at "e9"; intro c L s A R f fi fd nm
 walk_at "e5"; intro ln d C cd ca
 walk_at "e1"; intro tm
 walk_at "e5"; intro td tab K l t0
 walk_at "e2"; intro m0 a
 walk_at "e1"; intro b
 intro F hb bnd hc hk HC h39 hl S hr Lf H hsub h
 refine f_callT F S (by lia) hb bnd ?_
 refine star_binds S fun ta ka s S=>⟨[(1,.ref ca),(45,.ref ta),(46,.ref ka)],_,rfl,by kernel_rfl!,S,?_⟩
 intro fr s S
 have K1:∀ {L'},(fr,Nm [(46,.ref ka),(45,.ref ta),(1,.ref ca)])∈L'→(∀ p∈Lf,p∈L')→Sk (A.deeper (envF f fd fr)) (envF f fd fr) fr L':=fun hm hs=>Sk.deep F H hm hs
 have H1:Frs (A.deeper (envF f fd fr)) (HX fr ca ta ka a b++Lf):=Frs.deep (l:=[(46,.ref ka),(45,.ref ta),(1,.ref ca)]) F H (.head _) fun p hp=>.tail _ (.tail _ (.tail _ hp))
 refine x_cons ?_
 refine x_wE0 (fr:=fr) ?_
 walk_at "go"
 walk_at "go"
 refine g_own ‹_› (by walk_at "m") HC (by exact ixm 4 rfl) (by walk_at "i") h39 hl (by rfl) ?_
 intro s S
 refine ⟨_,_,_,_,rfl,S,by exact ixm 5 rfl,by exact ixm 6 rfl,?_⟩
 have S:=S.pick2G (p:=(tm,InstP 929 td)) (q:=(td,Tm0 K.clk)) (G:=K.G t0 m0) (by walk_at "k") (by walk_at "k") (by walk_at "K")
 refine timer_enter_out S (by rw [depth_deeper]; lia) fun ttk s S=>?_
 walk_at "g"
 refine x_call_star (by rfl) (by rfl) ?_
 walk_at "g"
 refine g_cls ‹_› hc fun s S=>?_
 refine Tk.go (hk c.P) ?_
 walk_at "g"
 refine St.star (St.pick2 S (by walk_at "k") (by walk_at "k")) (Nat.le_of_ble_eq_true (by rfl)) fun s S=>?_
 have S:=S.push emptyDict rfl (P:=EmD) rfl (d:=s.drawn) (t:=s.toks) (os:=s.os)
 generalize hda:s.heap.objs.size=da at S
 walk_at "g"
 refine ⟨_,rfl,S.emD (by exact ixn 5 0 rfl rfl),S.emD (by walk_at "m"),S.notMods (P:=EmD) (by exact ixn 5 0 rfl rfl),S.K,x_code ?_⟩
 have S:=S.dropAt (p:=(da,_)) (by walk_at "k")
 refine codeAny_mono (h (A.deeper (envF f fd fr)) fr ta ka _ (depth_deeper _ _) rfl rfl H1 (S.perm (by walk_at "d"))) fun r s' z=>?_
 rcases z with ⟨v,L1,rfl,S,fin⟩ | ⟨e,cl,x2,L1,rfl,hs,X,fin⟩
 ·simp only [HX,List.cons_append,List.nil_append] at S
  walk_at "g"
  have S:=S.weak (a:=td) (P:=Tmr K.clk 1 (t0+K.step)) (P':=Tmr K.clk (0+1) (t0+K.step)) (by walk_at "r") fun o z=>z
  refine timer_exit (n:=0) (St.pick2 S (by walk_at "k") (by walk_at "k")) (by rw [depth_deeper]; lia) fun s S=>?_
  have S:=S.weak (a:=td) (P':=Tm0 K.clk) (by walk_at "r") fun o z=>Tms.zero.mp z
  walk_at "g"
  have S:=S.dropAt (p:=(fr,_)) (by walk_at "k")
  have S:=S.dropAt (p:=(ta,_)) (by walk_at "k")
  have S:=S.dropAt (p:=(ka,_)) (by walk_at "k")
  exact fin _ (S.perm (by exact .refl _))
 ·simp only [HX,List.cons_append,List.nil_append] at X
  have X:=X.weak (a:=td) (P:=Tmr K.clk 1 (t0+K.step)) (P':=Tmr K.clk (0+1) (t0+K.step)) (by walk_at "r") fun o z=>z
  refine ⟨e,_,_,_,rfl,.next X,K1 (by walk_at "m") (fun p hp=>by have hp':=hs p hp; walk_at "m"),fun s1 X tb=>?_⟩
  refine exit_tw (n:=0) X (by walk_at "k") (by walk_at "k") (by show A.depth+1<_; lia) fun s2 X=>⟨rfl,_,X,fun s3 X=>?_⟩
  refine fly_out (.held X) F (K1 (by walk_at "m") fun p hp=>by have hp':=hs p hp; walk_at "m") fun s' X=>fin _ ?_
  have X:=X.weak (a:=td) (P':=Tm0 K.clk) (by walk_at "r") fun o z=>Tms.zero.mp z
  have X:=X.dropAt (p:=(fr,_)) (by walk_at "k")
  have X:=X.dropAt (p:=(ta,_)) (by walk_at "k")
  have X:=X.dropAt (p:=(ka,_)) (by walk_at "k")
  exact X.perm (by exact .refl _)
theorem W981 {C cd ca tm td:Addr}{tab:List (Nat × AK)}{K:Ck c}{l:List (Nat × Value)}{t0 m0:Int}{a b:Value} (HC:Cls C tab) (h39:tab.lookup 39=some .own) (hl:l.lookup 39=some (.ref tm)) (S:St c ((ca, InstP C cd) :: (cd, Dm l) :: (tm, InstP 929 td) :: (td, Tm0 K.clk) :: (K.G t0 m0 ++ L)) s) (hr:A.depth+9<recursionLimit) {Lf:List Cell} (H:Frs A Lf) (hsub:∀ p ∈ Lf, p ∈ L) (h:∀ A' fr ta ka s', A'.depth=A.depth+1 → A'.units=A.units+3 → A'.handled=A.handled → Frs A' (HX fr ca ta ka a b ++ Lf) →
   St c ((ca,InstP C cd)::(cd,Dm l)::(tm,InstP 929 td)::(td,Tmr K.clk 1 (t0+K.step))::(K.G (t0+K.step) (m0+1)++(HX fr ca ta ka a b++L))) s' →
   codeAny c.M A' (.call (.ref 813) ⟨[.ref ca,a,b],[]⟩) (Hout c tm td K.clk (t0+K.step) (HX fr ca ta ka a b) Lf R) s'):codeAny c.M A (.call (.ref 981) ⟨[.ref ca,a,b],[]⟩) R s :=
 Wgen (ln:=552) (d:=0) fn981 (by rfl) bind981 cls_get keep813 HC h39 hl S hr H hsub h
theorem W988 {C cd ca tm td:Addr}{tab:List (Nat × AK)}{K:Ck c}{l:List (Nat × Value)}{t0 m0:Int}{a b:Value} (HC:Cls C tab) (h39:tab.lookup 39=some .own) (hl:l.lookup 39=some (.ref tm)) (S:St c ((ca, InstP C cd) :: (cd, Dm l) :: (tm, InstP 929 td) :: (td, Tm0 K.clk) :: (K.G t0 m0 ++ L)) s) (hr:A.depth+9<recursionLimit) {Lf:List Cell} (H:Frs A Lf) (hsub:∀ p ∈ Lf, p ∈ L) (h:∀ A' fr ta ka s', A'.depth=A.depth+1 → A'.units=A.units+3 → A'.handled=A.handled → Frs A' (HX fr ca ta ka a b ++ Lf) →
   St c ((ca,InstP C cd)::(cd,Dm l)::(tm,InstP 929 td)::(td,Tmr K.clk 1 (t0+K.step))::(K.G (t0+K.step) (m0+1)++(HX fr ca ta ka a b++L))) s' →
   codeAny c.M A' (.call (.ref 821) ⟨[.ref ca,a,b],[]⟩) (Hout c tm td K.clk (t0+K.step) (HX fr ca ta ka a b) Lf R) s'):codeAny c.M A (.call (.ref 988) ⟨[.ref ca,a,b],[]⟩) R s :=
 Wgen (ln:=556) (d:=0) fn988 (by rfl) bind988 cls_pop keep821 HC h39 hl S hr H hsub h
theorem W995 {C cd ca tm td:Addr}{tab:List (Nat × AK)}{K:Ck c}{l:List (Nat × Value)}{t0 m0:Int}{a b:Value} (HC:Cls C tab) (h39:tab.lookup 39=some .own) (hl:l.lookup 39=some (.ref tm)) (S:St c ((ca, InstP C cd) :: (cd, Dm l) :: (tm, InstP 929 td) :: (td, Tm0 K.clk) :: (K.G t0 m0 ++ L)) s) (hr:A.depth+9<recursionLimit) {Lf:List Cell} (H:Frs A Lf) (hsub:∀ p ∈ Lf, p ∈ L) (h:∀ A' fr ta ka s', A'.depth=A.depth+1 → A'.units=A.units+3 → A'.handled=A.handled → Frs A' (HX fr ca ta ka a b ++ Lf) →
   St c ((ca,InstP C cd)::(cd,Dm l)::(tm,InstP 929 td)::(td,Tmr K.clk 1 (t0+K.step))::(K.G (t0+K.step) (m0+1)++(HX fr ca ta ka a b++L))) s' →
   codeAny c.M A' (.call (.ref 829) ⟨[.ref ca,a,b],[]⟩) (Hout c tm td K.clk (t0+K.step) (HX fr ca ta ka a b) Lf R) s'):codeAny c.M A (.call (.ref 995) ⟨[.ref ca,a,b],[]⟩) R s :=
 Wgen (ln:=560) (d:=7) fn995 (by rfl) bind995 cls_setdef keep829 HC h39 hl S hr H hsub h

end
end
section
section
variable {q:UCfg c}{od:Addr}{env:Env}{fr:Addr}
theorem UI.hit_no {rs:List (It × Value)}{os:List It}{rows data:List (Int × Value)}{m t key:Int} (u:UI rs os rows data m) (h:∀ r∈rs,r.1.k=key→¬ t<r.1.e):HitU rows os key t false:=by
 by_cases hk:key∈rs.map (·.1.k)
 ·obtain ⟨r,hr,rfl⟩:=List.mem_map.mp hk
  exact .inl ⟨r.1,u.atR hr,(u.inO hr).1,(decide_eq_false (h r hr rfl)).symm⟩
 ·exact .inr ⟨va_none.mpr (by rw [u.rkeys]; exact hk),rfl⟩
set_option maxHeartbeats 2000000 in
theorem X_setdef {rs:List (It × Value)}{rows data:List (Int × Value)}{os:List It}{m n t t0 m0 key v:Int}{mtk kt vt:Tok}
  (S:St c ((q.ca,InstP 1373 q.cd)::(q.cd,Dm (q.D (.int m mtk) od))::(q.dd,DI c data)::(q.it,DI c rows)::(q.tm,InstP 929 q.td)::(q.td,Tmr q.K.clk n t)::(od,LiP (irefs os))::(itCells os++(q.K.G t0 m0++(q.U.G++L)))) s)
  (hr:A.depth+9<recursionLimit) (hh:A.handled=none) (H:Frs A L) (hn:0<n) (u:UI rs os rows data m) (hk:∀ r∈rs,r.1.k=key→¬ t<r.1.e)
  (h:∀ A' fr s',A'.depth=A.depth+1→A'.units=A.units+3→A'.handled=A.handled→Frs A' ((fr,Nm [(26,.int v vt),(11,.int key kt),(1,.ref q.ca)])::L) →
   St c ((q.ca,InstP 1373 q.cd)::(q.cd,Dm (q.D (.int m mtk) od))::(q.dd,DI c data)::(q.it,DI c rows)::(q.tm,InstP 929 q.td)::(q.td,Tms q.K.clk n t)::(od,LiP (irefs os))::(itCells os++(q.K.G t0 m0++(q.U.G++((fr,Nm [(26,.int v vt),(11,.int key kt),(1,.ref q.ca)])::L))))) s' →
   codeAny c.M A' (.call (.ref 1319) ⟨[.ref q.ca,.int key kt,.int v vt],[]⟩) (fun r s1 =>
    (∃ L1,r=.ok (.ret .none)∧St c ((fr,Nm [(26,.int v vt),(11,.int key kt),(1,.ref q.ca)])::L1) s1∧∀ s2,St c L1 s2→R (.ok (.ret (.int v vt))) s2) ∨
    (∃ e cls x2 L1,r=.error (.ref e)∧(∀ p∈L,p∈L1)∧Tw c ((fr,Nm [(26,.int v vt),(11,.int key kt),(1,.ref q.ca)])::L1) e cls .none x2 s1∧∀ s2,Tw c L1 e cls .none x2 s2→R (.error (.ref e)) s2)) s') :
  codeAny c.M A (.call (.ref 829) ⟨[.ref q.ca,.int key kt,.int v vt],[]⟩) R s:=by
 have n0:n≠0:=by lia
 refine f_call fn829 [(1,.ref q.ca),(11,.int key kt),(26,.int v vt)] S (by lia) (by rfl) (by kernel_rfl!) (by kernel_rfl!) ?_
 intro fr s S
 have F:=fn829
 walk_at "g"
 refine i_in S (by walk_at "m") (by walk_at "m") (by walk_at "m") sp_inU ?_
 have S1:St c ((q.ca,InstP 1373 q.cd)::(q.cd,Dm (q.D (.int m mtk) od))::(q.it,DI c rows)::(q.tm,InstP 929 q.td)::(q.td,Tmr q.K.clk n t)::(itCells os++((fr,Nm [(26,.int v vt),(11,.int key kt),(1,.ref q.ca)])::(q.dd,DI c data)::(od,LiP (irefs os))::(q.K.G t0 m0++(q.U.G++L))))) s:=S.perm (by walk_at "d")
 refine U_contains S1 (by rw [depth_deeper]; lia) n0 (Frs.deep (l:=[(26,.int v vt),(11,.int key kt),(1,.ref q.ca)]) F H (.head _) fun p hp=>by walk_at "m") hh (u.hit_no hk) fun s S=>?_
 refine ⟨_,rfl,?_⟩
 walk_at "g"
 refine i_set ‹_› (by exact ixn 5 0 rfl rfl) (by walk_at "m") (by walk_at "m") sp_setU ?_
 have S1:St c ((q.ca,InstP 1373 q.cd)::(q.cd,Dm (q.D (.int m mtk) od))::(q.dd,DI c data)::(q.it,DI c rows)::(q.tm,InstP 929 q.td)::(q.td,Tmr q.K.clk n t)::(od,LiP (irefs os))::(itCells os++(q.K.G t0 m0++(q.U.G++((fr,Nm [(26,.int v vt),(11,.int key kt),(1,.ref q.ca)])::L))))) s:=S.perm (by walk_at "d")
 have S2:=S1.weak (a:=q.td) (P':=Tms q.K.clk n t) (by walk_at "r") fun o z=>Tms.of z
 refine codeAny_mono (h (A.deeper (envF 829 fd829 fr)) fr _ (depth_deeper _ _) rfl rfl (Frs.deep (l:=[(26,.int v vt),(11,.int key kt),(1,.ref q.ca)]) F H (.head _) fun p hp=>.tail _ hp) S2) fun r s' z=>?_
 rcases z with ⟨L1,rfl,S,fin⟩ | ⟨e,cl,x2,L1,rfl,hs,X,fin⟩
 ·walk_at "g"
  rename_i S
  exact fin _ (S.dropAt (p:=(fr,_)) (by walk_at "k"))
 ·refine fly_out (.next X) F (Sk.deep (l:=[(26,.int v vt),(11,.int key kt),(1,.ref q.ca)]) F H (by walk_at "m") fun p hp=>by have hp':=hs p hp; walk_at "m") fun s' X=>fin _ ?_
  exact X.dropAt (p:=(fr,_)) (by walk_at "k")
noncomputable def U_popitem_empty_P (rs:List (It × Value)) (rows data:List (Int × Value)) (os:List It) (m n t t0 m0 t' t0' m0':Int) (mtk:Tok):Prop:=∀ (S:St c ((q.ca,InstP 1373 q.cd)::(q.cd,Dm (q.D (.int m mtk) od))::(q.dd,DI c data)::(q.it,DI c rows)::(q.tm,InstP 929 q.td)::(q.td,Tms q.K.clk n t)::(od,LiP (irefs os))::(itCells os++(q.K.G t0 m0++L))) s) (hr:A.depth+4<recursionLimit) (hu:A.units+20<cLine) (H:Frs A L) (hh:A.handled=none) (hz:os.length≤800) (hn:0≤n) (hm:Mv q.K n t t0 m0 t' t0' m0') (u:UI rs os rows data m) (hne:alive t' rs=[]) (h:∀ tk od' os' rows' data' m' e x2 s',UI [] os' rows' data' m'→os'.length≤os.length→Tw c ((q.ca,InstP 1373 q.cd)::(q.cd,Dm (q.D (.int m' tk) od'))::(q.dd,DI c data')::(q.it,DI c rows')::(q.tm,InstP 929 q.td)::(q.td,Tms q.K.clk n t')::(od',LiP (irefs os'))::(itCells os'++(q.K.G t0' m0'++L))) e (.type "KeyError") .none x2 s'→R (.error (.ref e)) s'),codeAny c.M A (.call (.ref 1355) ⟨[.ref q.ca],[]⟩) R s
set_option maxHeartbeats 4000000 in
theorem U_popitem_empty {rs:List (It × Value)}{rows data:List (Int × Value)}{os:List It}{m n t t0 m0 t' t0' m0':Int}{mtk:Tok}:@U_popitem_empty_P c L s A R q od rs rows data os m n t t0 m0 t' t0' m0' mtk:=by
 revert c L s A R q od rs rows data os m n t t0 m0 t' t0' m0' mtk
 walk_at "e5"; intro c L s A R
 walk_at "e9"; intro q od rs rows data os m n t
 walk_at "e5"; intro t0 m0 t' t0' m0'
 walk_at "e1"; intro mtk
 intro S hr hu H hh hz hn hm u hne h
 refine f_call fn1355 [(1,.ref q.ca)] S (by lia) (by rfl) (by kernel_rfl!) (by kernel_rfl!) ?_
 intro fr s S
 have F:=fn1355
 refine x_cons ?_
 refine x_wE (fr:=fr) ?_
 walk_at "g"
 refine eu_timer S (by walk_at "m") (by walk_at "m") (by rw [depth_deeper]; lia) fun s S=>?_
 refine ⟨_,_,_,_,rfl,S,by exact ixm 5 rfl,by exact ixm 6 rfl,?_⟩
 refine timer_enter (St.pick2G S (by walk_at "k") (by walk_at "k") (by walk_at "K")) (by rw [depth_deeper]; lia) hm fun ttk s S=>?_
 walk_at "g"
 refine g_meth ‹_› (by exact ixn 2 1 rfl rfl) (by walk_at "c") (by exact ixn 2 2 rfl rfl) (by walk_at "i") (by rfl) (by rfl) ?_
 refine To.K keep1348 ?_
 walk_at "g"
 have S:=St.perm (L':=(q.ca,InstP 1373 q.cd)::(q.cd,Dm (q.D (.int m mtk) od))::(q.dd,DI c data)::(q.it,DI c rows)::(od,LiP (irefs os))::(itCells os++((q.tm,InstP 929 q.td)::(q.td,Tmr q.K.clk (n+1) t')::(q.K.G t0' m0'++((fr,Nm [(35,.int t' ttk),(1,.ref q.ca)])::L))))) ‹_› (by walk_at "d")
 refine ⟨⟨_,S⟩,U_expire (q:=q) S (by rw [depth_deeper]; lia) (by show A.units+3+10<_; lia) hh hz u ?_⟩
 intro xl tk od1 os1 rows1 data1 m1 told s u1 l1 a1 e1 S
 have S:=S.drop.dropG
 rw [hne] at u1
 have hrows:=u1.rows
 rw [List.map_nil] at hrows
 subst hrows
 walk_at "g"
 refine d_iter (St.pick2 ‹_› (by walk_at "k") (by walk_at "k")) fun I ep s S=>?_
 walk_at "g"
 refine d_next_end S hh rfl fun e s X=>?_
 have K:∀ {L'},(fr,Nm [(35,.int t' ttk),(1,.ref q.ca)])∈L'→(∀ p∈L,p∈L')→Sk (A.deeper (envF 1355 fd1355 fr)) (envF 1355 fd1355 fr) fr L':=fun hm hs=>Sk.deep F H hm hs
 refine (Fl.new X).hd (K (.head _) fun p hp=>by walk_at "m") fun s X=>?_
 refine by_kindW X F (by walk_at "i") (by decide) (by rfl) (by rfl) (by rw [isSubtype_type]; kernel_rfl) (by rw [isSubtype_type]; kernel_rfl) (by rw [isSubtype_type]; kernel_rfl) fun s X=>?_
 refine x_cons ?_
 refine x_raise_from (clsh:=.type "StopIteration") (vh:=.none) excClass_KeyError rfl (by rfl) ?_
 obtain ⟨k',S,back⟩:=X.keep
 change wpAny (Cx.M { c with k:=k' }) _ _ _ _ _
 walk_at "g"
 refine ⟨rfl,?_⟩
 change wpAny (Cx.M { c with k:=k' }) _ _ _ _ _
 walk_at "g"
 refine x_attr (by rfl) ?_
 walk_at "g"
 refine To.type ?_
 walk_at "g"
 rename_i S
 refine x_type (C:=1373) S (by walk_at "m") (by walk_at "m") ?_
 refine g_name S name1373 fun nm tk s hz S=>?_
 refine x_empty_text S hz fun v s S=>?_
 refine ⟨_,back _ _ S,⟨_,.head _,trivial⟩,fun e' s' X=>?_⟩
 refine (Fl.new X).out (K (.head _) fun p hp=>by walk_at "m") fun s' X=>?_
 refine ⟨e',_,_,_,rfl,.held X,K (.head _) (fun p hp=>by walk_at "m"),fun s1 X tb=>?_⟩
 refine exit_tw X (by walk_at "k") (by walk_at "k") (by show A.depth+1<_; lia) fun s2 X=>⟨rfl,_,X,fun s3 X=>?_⟩
 refine fly_out (.held X) F (K (by walk_at "m") fun p hp=>by walk_at "m") fun s' X=>?_
 have X:=X.dropAt (p:=(fr,_)) (by walk_at "k")
 have X:=X.weak (a:=q.it) (P':=DI c []) (by walk_at "r") (fun o z=>DIe.di z)
 exact h _ od1 os1 [] data1 m1 e' (.ref e) s' u1 l1 (X.perm (by exact ixd [3,3,3,2] rfl))
end
end
section
structure PR where
 k:Int
 v:Int
 e:Int
noncomputable def livingP (t:Int) (ps:List PR):List PR:=ps.filter fun p=>decide (t<p.e)
noncomputable def deadP (t:Int) (ps:List PR):List PR:=ps.filter fun p=>!decide (t<p.e)
noncomputable def dropP (k:Int) (ps:List PR):List PR:=ps.filter fun p=>decide (p.k≠k)
noncomputable def staysP (room k:Int) (ps:List PR):List PR:=if k∈ps.map (·.k) then ps else if (ps.length:Int)+1≤room then ps else ps.tail
noncomputable def putP (room k v e:Int) (ps:List PR):List PR:=dropP k (staysP room k ps)++[⟨k,v,e⟩]
noncomputable def kv (p:PR):Int × Int:=(p.k,p.v)
structure Ok (A:Around) (L:List Cell):Prop where
 depth:A.depth+20<recursionLimit
 units:A.units+100<cLine
 handled:A.handled=none
 frs:Frs A L
noncomputable def pairCells (ts:List (Addr × Int × Tok × Int × Tok)):List Cell:=ts.map fun x=>(x.1,TuP [.int x.2.1 x.2.2.1,.int x.2.2.2.1 x.2.2.2.2])
noncomputable def pairRefs (ts:List (Addr × Int × Tok × Int × Tok)):List Value:=ts.map fun x=>.ref x.1
noncomputable def pairsOf (ts:List (Addr × Int × Tok × Int × Tok)):List (Int × Int):=ts.map fun x=>(x.2.1,x.2.2.2.1)
noncomputable abbrev GG:=List PR→Int→Nat→List Cell→Prop
noncomputable abbrev MethP (c:Cx) (G:GG) (ca f:Addr) (nm:Str):Prop:=∀ {A E L s ps t B X pl}{Q:Value × List Value→Shared→Prop},G ps t B X→St c L s→(∀ p∈X,p∈L)→Q (.ref f,[.ref ca]) s→wpAny c.M A (getMethod (.ref ca) nm pl) Q E s
noncomputable abbrev Pset (c:Cx) (K:Ck c) (G:GG) (ca f:Addr) (room last:Int):Prop:=∀ {A ps B X L s t m key v kt vt}{R:Result→Shared→Prop},G ps t B X→B≤600→Ok A L→St c (X++(K.G t m++L)) s →
  (last≤0→∀ X' s',G [] (t+K.step) B X'→St c (X'++(K.G (t+K.step) (m+1)++L)) s'→R (.ok (.ret .none)) s') →
  (0<last→room<1→∀ X' e s',G (livingP (t+K.step) ps) (t+K.step) B X'→Tw c (X'++(K.G (t+K.step) (m+1)++L)) e (.type "ValueError") .none .none s'→R (.error (.ref e)) s') →
  (0<last→1≤room→∀ X' s',G (putP room key v (t+K.step+last) (livingP (t+K.step) ps)) (t+K.step) (B+1) X'→St c (X'++(K.G (t+K.step) (m+1)++L)) s'→R (.ok (.ret .none)) s') →
  codeAny c.M A (.call (.ref f) ⟨[.ref ca,.int key kt,.int v vt],[]⟩) R s
noncomputable abbrev Ppop (c:Cx) (K:Ck c) (G:GG) (ca f:Addr) (room last:Int):Prop:=∀ {A ps B X L s t m key dv kt dt}{R:Result→Shared→Prop},G ps t B X→B≤600→Ok A L→St c (X++(K.G t m++L)) s →
  (∀ p∈ps,p.k=key→t+K.step<p.e→∀ X' vt s',G (dropP key ps) (t+K.step) B X'→St c (X'++(K.G (t+K.step) (m+1)++L)) s'→R (.ok (.ret (.int p.v vt))) s') →
  ((∀ p∈ps,p.k=key→¬ t+K.step<p.e)→∀ X' s',G ps (t+K.step) B X'→St c (X'++(K.G (t+K.step) (m+1)++L)) s'→R (.ok (.ret (.int dv dt))) s') →
  codeAny c.M A (.call (.ref f) ⟨[.ref ca,.int key kt,.int dv dt],[]⟩) R s
noncomputable abbrev Pget (c:Cx) (K:Ck c) (G:GG) (ca f:Addr) (room last:Int):Prop:=∀ {A ps B X L s t m key dv kt dt}{R:Result→Shared→Prop},G ps t B X→B≤600→Ok A L→St c (X++(K.G t m++L)) s →
  (∀ p∈ps,p.k=key→t+K.step<p.e→∀ X' vt s',G (dropP key ps++[p]) (t+K.step) B X'→St c (X'++(K.G (t+K.step) (m+1)++L)) s'→R (.ok (.ret (.int p.v vt))) s') →
  ((∀ p∈ps,p.k=key→¬ t+K.step<p.e)→∀ X' s',G ps (t+K.step) B X'→St c (X'++(K.G (t+K.step) (m+1)++L)) s'→R (.ok (.ret (.int dv dt))) s') →
  codeAny c.M A (.call (.ref f) ⟨[.ref ca,.int key kt,.int dv dt],[]⟩) R s
noncomputable abbrev Psetdef (c:Cx) (K:Ck c) (G:GG) (ca f:Addr) (room last:Int):Prop:=∀ {A ps B X L s t m key v kt vt}{R:Result→Shared→Prop},G ps t B X→B≤600→Ok A L→St c (X++(K.G t m++L)) s →
  (∀ p∈ps,p.k=key→t+K.step<p.e→∀ X' vt s',G (dropP key ps++[p]) (t+K.step) B X'→St c (X'++(K.G (t+K.step) (m+1)++L)) s'→R (.ok (.ret (.int p.v vt))) s') →
  ((∀ p∈ps,p.k=key→¬ t+K.step<p.e)→last≤0→∀ X' s',G [] (t+K.step) B X'→St c (X'++(K.G (t+K.step) (m+1)++L)) s'→R (.ok (.ret (.int v vt))) s') →
  ((∀ p∈ps,p.k=key→¬ t+K.step<p.e)→0<last→room<1→∀ X' e s',G (livingP (t+K.step) ps) (t+K.step) B X'→Tw c (X'++(K.G (t+K.step) (m+1)++L)) e (.type "ValueError") .none .none s'→R (.error (.ref e)) s') →
  ((∀ p∈ps,p.k=key→¬ t+K.step<p.e)→0<last→1≤room→∀ X' s',G (putP room key v (t+K.step+last) (livingP (t+K.step) ps)) (t+K.step) (B+1) X'→St c (X'++(K.G (t+K.step) (m+1)++L)) s'→R (.ok (.ret (.int v vt))) s') →
  codeAny c.M A (.call (.ref f) ⟨[.ref ca,.int key kt,.int v vt],[]⟩) R s
noncomputable abbrev Ppopitem (c:Cx) (K:Ck c) (G:GG) (ca f:Addr) (room last:Int):Prop:=∀ {A ps B X L s t m}{R:Result→Shared→Prop},G ps t B X→B≤600→Ok A L→St c (X++(K.G t m++L)) s →
  (livingP (t+K.step) ps=[]→∀ X' e x2 s',G [] (t+K.step) B X'→Tw c (X'++(K.G (t+K.step) (m+1)++L)) e (.type "KeyError") .none x2 s'→R (.error (.ref e)) s') →
  (∀ p rest,livingP (t+K.step) ps=p::rest→∀ X' x kt vt s',G rest (t+K.step) B X'→St c ((x,TuP [.int p.k kt,.int p.v vt])::(X'++(K.G (t+K.step) (m+1)++L))) s'→R (.ok (.ret (.ref x))) s') →
  codeAny c.M A (.call (.ref f) ⟨[.ref ca],[]⟩) R s
noncomputable abbrev Pexpire (c:Cx) (K:Ck c) (G:GG) (ca f:Addr) (room last:Int):Prop:=∀ {A ps B X L s t m}{R:Result→Shared→Prop},G ps t B X→B≤600→Ok A L→St c (X++(K.G t m++L)) s →
  (∀ X' x ts s',(pairsOf ts).Perm ((deadP (t+K.step) ps).map kv)→G (livingP (t+K.step) ps) (t+K.step) B X'→St c ((x,LiP (pairRefs ts))::(pairCells ts++(X'++(K.G (t+K.step) (m+1)++L)))) s'→R (.ok (.ret (.ref x))) s') →
  codeAny c.M A (.call (.ref f) ⟨[.ref ca],[]⟩) R s
noncomputable abbrev Psize (c:Cx) (K:Ck c) (G:GG) (ca f:Addr) (room last:Int):Prop:=∀ {A ps B X L s t m}{R:Result→Shared→Prop},G ps t B X→B≤600→Ok A L→St c (X++(K.G t m++L)) s →
  (∀ X' tk s',G (livingP (t+K.step) ps) (t+K.step) B X'→St c (X'++(K.G (t+K.step) (m+1)++L)) s'→R (.ok (.ret (.int ((livingP (t+K.step) ps).length:Nat) tk))) s') →
  codeAny c.M A (.call (.ref f) ⟨[.ref ca],[]⟩) R s
set_option genInjectivity false in
structure Mem (c:Cx) (K:Ck c) where
 ca:Addr
 C:Addr
 cd:Addr
 room:Int
 last:Int
 G:GG
 fset:Addr
 fpi:Addr
 fex:Addr
 hold:List Cell
 holds:∀ {ps t B X},G ps t B X→∀ p∈hold,p∈X
 inst:∀ {ps t B X},G ps t B X→(ca,InstP C cd)∈X∧∃ PP,(cd,PP)∈X
 nodup:∀ {ps t B X},G ps t B X→(ps.map PR.k).Nodup
 len:∀ {ps t B X},G ps t B X→(ps.length:Int)≤max room 0
 dry:∀ {ps t B X},G ps t B X→last≤0→ps=[]
 mono:∀ {ps t B B' X},G ps t B X→B≤B'→G ps t B' X
 sp_set:∀ P,spOk (Mine.K P) C "__setitem__" fset=true
 sp_len:∀ P,spOk (Mine.K P) C "__len__" 957=true
 keep_pi:∀ P,keepIn (Mine.K P) (.ref fpi)=true
 keep_ex:∀ P,keepIn (Mine.K P) (.ref fex)=true
 m_pop:MethP c G ca 988 (Str.ofString "pop")
 m_get:MethP c G ca 981 (Str.ofString "get")
 m_setdef:MethP c G ca 995 (Str.ofString "setdefault")
 m_popitem:MethP c G ca fpi (Str.ofString "popitem")
 m_expire:MethP c G ca fex (Str.ofString "expire")
 set:Pset c K G ca fset room last
 pop:Ppop c K G ca 988 room last
 get:Pget c K G ca 981 room last
 setdef:Psetdef c K G ca 995 room last
 popitem:Ppopitem c K G ca fpi room last
 expire:Pexpire c K G ca fex room last
 size:Psize c K G ca 957 room last
end
section
section
variable {q:UCfg c}{od:Addr}{env:Env}{fr:Addr}
theorem keep805 (P:Params):keepIn (Mine.K P) (.ref 805)=true:=by kernel_rfl!
noncomputable def ival:Value→Int | .int i _=>i | _=>0
noncomputable def toP (r:It × Value):PR:=⟨r.1.k,ival r.2,r.1.e⟩
noncomputable def Ints (rs:List (It × Value)):Prop:=∀ r∈rs,∃ t,r.2=.int (ival r.2) t
theorem living_map {t:Int}{rs:List (It × Value)}:livingP t (rs.map toP)=(alive t rs).map toP:=filt_map fun _ _=>rfl
theorem dead_map {t:Int}{rs:List (It × Value)}:deadP t (rs.map toP)=(dead t rs).map toP:=filt_map fun _ _=>rfl
theorem drop_map {k:Int}{rs:List (It × Value)}:dropP k (rs.map toP)=(dropK k rs).map toP:=filt_map fun _ _=>rfl
theorem keys_map {rs:List (It × Value)}:(rs.map toP).map PR.k=rs.map (·.1.k):=by rw [List.map_map]; rfl
theorem stays_map {room k:Int}{rs:List (It × Value)}:staysP room k (rs.map toP)=(stays room k rs).map toP:=by
 unfold staysP stays
 rw [show (rs.map toP).map (·.k)=rs.map (·.1.k) from keys_map,List.length_map]
 split
 ·rfl
 ·split
  ·rfl
  ·rw [List.map_tail]
theorem Ints.sub {rs rs':List (It × Value)} (h:Ints rs) (hs:∀ r∈rs',r∈rs):Ints rs':=fun r hr=>h r (hs r hr)
theorem stays_sub {room k:Int}{rs:List (It × Value)}:∀ r∈stays room k rs,r∈rs:=by
 unfold stays
 split
 ·exact fun _ h=>h
 ·split
  ·exact fun _ h=>h
  ·exact fun _ h=>List.mem_of_mem_tail h
set_option genInjectivity false in
structure UG (q:UCfg c) (ps:List PR) (B:Nat) (X:List Cell) where
 od:Addr
 rs:List (It × Value)
 os:List It
 rows:List (Int × Value)
 data:List (Int × Value)
 m:Int
 mtk:Tok
 u:UI rs os rows data m
 hB:os.length≤B
 hroom:(rs.length:Int)≤max q.room 0
 dry:q.U.last≤0→rs=[]
 ivs:Ints rs
 hps:ps=rs.map toP
 hX:X=(q.ca,InstP 1373 q.cd)::(q.cd,Dm (q.D (.int m mtk) od))::(q.dd,DI c data)::(q.it,DI c rows)::(q.tm,InstP 929 q.td)::(q.td,Tm0 q.K.clk)::(od,LiP (irefs os))::(itCells os++q.U.G)
theorem alive_le {t:Int}{rs:List (It × Value)}:(alive t rs).length≤rs.length:=List.length_filter_le _ _
theorem stays_room {room k:Int}{rs:List (It × Value)} (h1:1≤room) (h:(rs.length:Int)≤room):((dropK k (stays room k rs)).length:Int)+1≤room:=by
 unfold stays
 by_cases hk:k∈rs.map (·.1.k)
 ·rw [if_pos hk]
  obtain ⟨⟨x,v⟩,hr,rfl⟩:=List.mem_map.mp hk
  have:(dropK x.k rs).length<rs.length:=by
   unfold dropK
   exact List.length_filter_lt_length_iff_exists.mpr ⟨(x,v),hr,by simp⟩
  dsimp only
  lia
 ·rw [if_neg hk]
  by_cases h2:(rs.length:Int)+1≤room
  ·rw [if_pos h2,dropK_none hk]; exact h2
  ·rw [if_neg h2]
   have:(dropK k rs.tail).length≤rs.tail.length:=List.length_filter_le _ _
   rw [List.length_tail] at this
   lia
theorem mv0 {K:Ck c}{t m:Int}:Mv K 0 0 t m (t+K.step) (t+K.step) (m+1):=.inr ⟨rfl,rfl,rfl,rfl⟩
theorem UG.st {ps:List PR}{B:Nat}{X:List Cell}{t0 m0:Int} (g:UG q ps B X) (S:St c (X++(q.K.G t0 m0++L)) s) :
  St c ((q.ca,InstP 1373 q.cd)::(q.cd,Dm (q.D (.int g.m g.mtk) g.od))::(q.dd,DI c g.data)::(q.it,DI c g.rows)::(q.tm,InstP 929 q.td)::(q.td,Tms q.K.clk 0 0)::(g.od,LiP (irefs g.os))::(itCells g.os++(q.K.G t0 m0++(q.U.G++L)))) s:=by
 rw [g.hX] at S
 simp only [List.cons_append,List.append_assoc] at S
 have S:=S.weak (a:=q.td) (P':=Tms q.K.clk 0 0) (by walk_at "r") fun o z=>Tms.zero.mpr z
 exact S.perm (by walk_at "d")
theorem UG.st0 {ps:List PR}{B:Nat}{X:List Cell}{t0 m0:Int} (g:UG q ps B X) (S:St c (X++(q.K.G t0 m0++L)) s) :
  St c ((q.ca,InstP 1373 q.cd)::(q.cd,Dm (q.D (.int g.m g.mtk) g.od))::(q.tm,InstP 929 q.td)::(q.td,Tm0 q.K.clk)::(q.K.G t0 m0++((q.dd,DI c g.data)::(q.it,DI c g.rows)::(g.od,LiP (irefs g.os))::(itCells g.os++(q.U.G++L))))) s:=by
 rw [g.hX] at S
 simp only [List.cons_append,List.append_assoc] at S
 exact S.perm (by walk_at "d")
noncomputable abbrev UX (q:UCfg c) (od:Addr) (rows data:List (Int × Value)) (os:List It) (m:Int) (mtk:Tok):List Cell :=
 (q.ca,InstP 1373 q.cd)::(q.cd,Dm (q.D (.int m mtk) od))::(q.dd,DI c data)::(q.it,DI c rows)::(q.tm,InstP 929 q.td)::(q.td,Tm0 q.K.clk)::(od,LiP (irefs os))::(itCells os++q.U.G)
theorem UX.back {rows data:List (Int × Value)}{os:List It}{m t0 m0:Int}{mtk:Tok}
  (S:St c ((q.ca,InstP 1373 q.cd)::(q.cd,Dm (q.D (.int m mtk) od))::(q.dd,DI c data)::(q.it,DI c rows)::(q.tm,InstP 929 q.td)::(q.td,Tms q.K.clk 0 (t0))::(od,LiP (irefs os))::(itCells os++(q.K.G t0 m0++(q.U.G++L)))) s) :
  St c (UX q od rows data os m mtk++(q.K.G t0 m0++L)) s:=by
 have S:=S.weak (a:=q.td) (P':=Tm0 q.K.clk) (by walk_at "r") fun o z=>Tms.zero.mp z
 simp only [UX,List.cons_append,List.append_assoc]
 exact S.perm (by walk_at "d")
theorem UX.backX {rows data:List (Int × Value)}{os:List It}{m t0 m0:Int}{mtk:Tok}{e:Addr}{cls v x2:Value}
  (S:Tw c ((q.ca,InstP 1373 q.cd)::(q.cd,Dm (q.D (.int m mtk) od))::(q.dd,DI c data)::(q.it,DI c rows)::(q.tm,InstP 929 q.td)::(q.td,Tms q.K.clk 0 (t0))::(od,LiP (irefs os))::(itCells os++(q.K.G t0 m0++(q.U.G++L)))) e cls v x2 s) :
  Tw c (UX q od rows data os m mtk++(q.K.G t0 m0++L)) e cls v x2 s:=by
 have S:=S.weak (a:=q.td) (P':=Tm0 q.K.clk) (by walk_at "r") fun o z=>Tms.zero.mp z
 simp only [UX,List.cons_append,List.append_assoc]
 exact S.perm (by walk_at "d")
noncomputable def UX.g {rs:List (It × Value)}{rows data:List (Int × Value)}{os:List It}{m:Int}{mtk:Tok}{B:Nat} (u:UI rs os rows data m) (hB:os.length≤B) (hroom:(rs.length:Int)≤max q.room 0) (dry:q.U.last≤0→rs=[]) (ivs:Ints rs):UG q (rs.map toP) B (UX q od rows data os m mtk) :=
 ⟨od,rs,os,rows,data,m,mtk,u,hB,hroom,dry,ivs,rfl,rfl⟩
theorem dry_sub {P:Prop}{rs rs':List (It × Value)} (h:P→rs=[]) (hs:∀ r∈rs',r∈rs):P→rs'=[]:=fun p=>by
 cases rs' with
 | nil=>rfl
 | cons r _=>have:=hs r (.head _); rw [h p] at this; cases this
theorem alive_sub {t:Int}{rs:List (It × Value)}:∀ r∈alive t rs,r∈rs:=fun _ h=>(List.mem_filter.mp h).1
theorem dropK_sub {k:Int}{rs:List (It × Value)}:∀ r∈dropK k rs,r∈rs:=fun _ h=>(List.mem_filter.mp h).1
theorem put_map {room key v t e:Int}{rs:List (It × Value)}{x:It}{vt:Tok} (h1:x.k=key) (h2:x.e=e):(dropK key (stays room key (alive t rs))++[(x,Value.int v vt)]).map toP=putP room key v e (livingP t (rs.map toP)):=by
 unfold putP
 rw [living_map,stays_map,drop_map,List.map_append,List.map_singleton]
 subst h1 h2
 rfl
noncomputable def U_deed_set_P (ps:List PR) (B:Nat) (X:List Cell) (t m key v:Int) (kt vt:Tok):Prop:=∀ (g:UG q ps B X) (hB:B≤600) (ok:Ok A L) (S:St c (X++(q.K.G t m++L)) s) (h1:q.U.last≤0→∀ X' s',Nonempty (UG q [] B X')→St c (X'++(q.K.G (t+q.K.step) (m+1)++L)) s'→R (.ok (.ret .none)) s') (h2:0<q.U.last→q.room<1→∀ X' e s',Nonempty (UG q (livingP (t+q.K.step) ps) B X')→Tw c (X'++(q.K.G (t+q.K.step) (m+1)++L)) e (.type "ValueError") .none .none s'→R (.error (.ref e)) s') (h3:0<q.U.last→1≤q.room→∀ X' s',Nonempty (UG q (putP q.room key v (t+q.K.step+q.U.last) (livingP (t+q.K.step) ps)) (B+1) X')→St c (X'++(q.K.G (t+q.K.step) (m+1)++L)) s'→R (.ok (.ret .none)) s'),codeAny c.M A (.call (.ref 1319) ⟨[.ref q.ca,.int key kt,.int v vt],[]⟩) R s
theorem U_deed_set {ps:List PR}{B:Nat}{X:List Cell}{t m key v:Int}{kt vt:Tok}:@U_deed_set_P c L s A R q ps B X t m key v kt vt:=by
 revert c L s A R q ps B X t m key v kt vt
 walk_at "e5"; intro c L s A R
 walk_at "e9"; intro q ps B X t m key v kt
 walk_at "e1"; intro vt
 intro g hB ok S h1 h2 h3
 obtain ⟨od1,od2,od3,od4⟩:=ok
 have S:=g.st S
 rw [g.hps] at h2 h3
 have lr:=g.hroom
 have la:=alive_le (t:=t+q.K.step) (rs:=g.rs)
 by_cases hl:q.U.last≤0
 ·refine U_setitem_due S (by lia) (by lia) od3 od4 (by have:=g.hB; lia) (Int.le_refl 0) mv0 g.u hl (by rw [g.dry hl]; rfl) fun tk od' os' rows' data' m' s' u' l' S=>?_
  refine h1 hl _ s' ⟨UX.g (rs:=[]) u' (by have:=g.hB; lia) (by simp; lia) (fun _=>rfl) (fun _ h=>nomatch h)⟩ (UX.back S)
 ·by_cases hr:q.room<1
  ·refine U_setitem_refuse S (by lia) (by lia) od3 od4 (by have:=g.hB; lia) (Int.le_refl 0) mv0 g.u (by lia) hr fun tk od' os' rows' data' m' e s' u' l' X=>?_
   rw [living_map] at h2
   exact h2 (by lia) hr _ e s' ⟨UX.g u' (by have:=g.hB; lia) (by lia) (fun z=>absurd z hl) (g.ivs.sub alive_sub)⟩ (UX.backX X)
  ·have hrm:((alive (t+q.K.step) g.rs).length:Int)≤q.room:=by lia
   refine U_setitem S (by lia) (by lia) od3 (by have:=g.hB; lia) (Int.le_refl 0) mv0 g.u (by lia) hrm (by lia) fun x tk od' os' rows' data' s' hx1 hx2 u' l' S=>?_
   rw [← put_map (vt:=vt) hx1 hx2] at h3
   refine h3 (by lia) (by lia) _ s' ⟨UX.g u' (by have:=g.hB; lia) ?_ (fun z=>absurd z hl) ?_⟩ (UX.back S)
   ·rw [List.length_append,List.length_singleton]
    have:=stays_room (k:=key) (by lia) hrm
    lia
   ·intro r hr
    rcases List.mem_append.mp hr with hr | hr
    ·exact g.ivs r (alive_sub r (stays_sub r (dropK_sub r hr)))
    ·rw [List.mem_singleton] at hr; subst hr; exact ⟨vt,rfl⟩
theorem toP_mem {rs:List (It × Value)}{p:PR} (h:p∈rs.map toP):∃ r∈rs,toP r=p:=by
 obtain ⟨r,h1,h2⟩:=List.mem_map.mp h
 exact ⟨r,h1,h2⟩
end
end
section
section
variable {q:UCfg c}{od:Addr}{env:Env}{fr:Addr}
theorem hit_iff {ps:List PR}{key t:Int}:(∃ p∈ps,p.k=key∧t<p.e)∨(∀ p∈ps,p.k=key→¬ t<p.e):=by
 rcases Classical.em (∃ p∈ps,p.k=key∧t<p.e) with h | h
 ·exact .inl h
 ·exact .inr fun p h1 h2 h3=>h ⟨p,h1,h2,h3⟩
noncomputable def UX.g' {ps:List PR}{rs:List (It × Value)}{rows data:List (Int × Value)}{os:List It}{m:Int}{mtk:Tok}{B:Nat} (hps:ps=rs.map toP) (u:UI rs os rows data m) (hB:os.length≤B) (hroom:(rs.length:Int)≤max q.room 0) (dry:q.U.last≤0→rs=[]) (ivs:Ints rs):UG q ps B (UX q od rows data os m mtk) :=
 ⟨od,rs,os,rows,data,m,mtk,u,hB,hroom,dry,ivs,hps,rfl⟩
theorem move_map {ps:List PR}{rs:List (It × Value)}{x:It}{v:Value} (h:ps=rs.map toP):dropP x.k ps++[toP (x,v)]=(dropK x.k rs++[(x,v)]).map toP:=by
 subst h; rw [drop_map,List.map_append]; rfl
theorem drop_map' {ps:List PR}{rs:List (It × Value)}{k:Int} (h:ps=rs.map toP):dropP k ps=(dropK k rs).map toP:=by
 subst h; rw [drop_map]
theorem nohit {rs:List (It × Value)}{key t:Int} (h:∀ p∈rs.map toP,p.k=key→¬ t<p.e):∀ r∈rs,r.1.k=key→¬ t<r.1.e :=
 fun r hr=>h (toP r) (List.mem_map.mpr ⟨r,hr,rfl⟩)
theorem UG.inn {ps:List PR}{B:Nat}{X:List Cell}{t0 m0:Int}{fr ta ka:Addr}{a b:Value} (g:UG q ps B X)
  (S:St c ((q.ca,InstP 1373 q.cd)::(q.cd,Dm (q.D (.int g.m g.mtk) g.od))::(q.tm,InstP 929 q.td)::(q.td,Tmr q.K.clk 1 t0)::(q.K.G t0 m0++(HX fr q.ca ta ka a b++((q.dd,DI c g.data)::(q.it,DI c g.rows)::(g.od,LiP (irefs g.os))::(itCells g.os++(q.U.G++L)))))) s) :
  St c ((q.ca,InstP 1373 q.cd)::(q.cd,Dm (q.D (.int g.m g.mtk) g.od))::(q.dd,DI c g.data)::(q.it,DI c g.rows)::(q.tm,InstP 929 q.td)::(q.td,Tmr q.K.clk 1 t0)::(itCells g.os++((g.od,LiP (irefs g.os))::(q.K.G t0 m0++(q.U.G++(HX fr q.ca ta ka a b++L)))))) s:=by
 simp only [HX,List.cons_append,List.nil_append] at S ⊢
 exact S.perm (by walk_at "d")
theorem UG.out {rows data:List (Int × Value)}{os:List It}{m t0 m0:Int}{mtk:Tok}{fr ta ka:Addr}{a b:Value}
  (S:St c ((q.ca,InstP 1373 q.cd)::(q.cd,Dm (q.D (.int m mtk) od))::(q.dd,DI c data)::(q.it,DI c rows)::(q.tm,InstP 929 q.td)::(q.td,Tmr q.K.clk 1 t0)::(itCells os++((od,LiP (irefs os))::(q.K.G t0 m0++(q.U.G++(HX fr q.ca ta ka a b++L)))))) s) :
  St c (HX fr q.ca ta ka a b++(q.tm,InstP 929 q.td)::(q.td,Tmr q.K.clk 1 t0)::((q.ca,InstP 1373 q.cd)::(q.cd,Dm (q.D (.int m mtk) od))::(q.dd,DI c data)::(q.it,DI c rows)::(od,LiP (irefs os))::(itCells os++(q.U.G++(q.K.G t0 m0++L))))) s:=by
 simp only [HX,List.cons_append,List.nil_append] at S ⊢
 exact S.perm (by walk_at "d")
theorem UG.fin {rows data:List (Int × Value)}{os:List It}{m t0 m0:Int}{mtk:Tok}
  (S:St c ((q.tm,InstP 929 q.td)::(q.td,Tm0 q.K.clk)::((q.ca,InstP 1373 q.cd)::(q.cd,Dm (q.D (.int m mtk) od))::(q.dd,DI c data)::(q.it,DI c rows)::(od,LiP (irefs os))::(itCells os++(q.U.G++(q.K.G t0 m0++L))))) s) :
  St c (UX q od rows data os m mtk++(q.K.G t0 m0++L)) s:=by
 simp only [UX,List.cons_append,List.append_assoc]
 exact S.perm (by exact ixd [2,2,2,2] rfl)
noncomputable def U_deed_get_P (ps:List PR) (B:Nat) (X:List Cell) (t m key dv:Int) (kt dt:Tok):Prop:=∀ (g:UG q ps B X) (hB:B≤600) (ok:Ok A L) (S:St c (X++(q.K.G t m++L)) s) (h1:∀ p∈ps,p.k=key→t+q.K.step<p.e→∀ X' vt s',Nonempty (UG q (dropP key ps++[p]) B X')→St c (X'++(q.K.G (t+q.K.step) (m+1)++L)) s'→R (.ok (.ret (.int p.v vt))) s') (h2:(∀ p∈ps,p.k=key→¬ t+q.K.step<p.e)→∀ X' s',Nonempty (UG q ps B X')→St c (X'++(q.K.G (t+q.K.step) (m+1)++L)) s'→R (.ok (.ret (.int dv dt))) s'),codeAny c.M A (.call (.ref 981) ⟨[.ref q.ca,.int key kt,.int dv dt],[]⟩) R s
theorem U_deed_get {ps:List PR}{B:Nat}{X:List Cell}{t m key dv:Int}{kt dt:Tok}:@U_deed_get_P c L s A R q ps B X t m key dv kt dt:=by
 revert c L s A R q ps B X t m key dv kt dt
 walk_at "e5"; intro c L s A R
 walk_at "e9"; intro q ps B X t m key dv kt
 walk_at "e1"; intro dt
 intro g hB ok S h1 h2
 obtain ⟨od1,od2,od3,od4⟩:=ok
 refine W981 (c:=c) cls1373 (l:=q.D (.int g.m g.mtk) g.od) (by rfl) (by rfl) (g.st0 S) (by lia) od4 (fun p hp=>by walk_at "m") fun A' fr ta ka s a1 a2 a3 H1 S=>?_
 have S:=g.inn S
 have lr:=g.u.rlen
 have ld:=g.u.dlen
 have lo:=g.u.olen
 have lB:=g.hB
 have H2:Frs A' ((g.od,LiP (irefs g.os))::(q.K.G (t+q.K.step) (m+1)++(q.U.G++(HX fr q.ca ta ka (.int key kt) (.int dv dt)++L)))):=H1.sub fun p hp=>.tail _ (List.mem_append_right _ (List.mem_append_right _ hp))
 rcases hit_iff (ps:=ps) (key:=key) (t:=t+q.K.step) with ⟨p,hp,hk,he⟩ | hno
 ·have hp0:=hp
  rw [g.hps] at hp
  obtain ⟨⟨x,v⟩,hr,rfl⟩:=toP_mem hp
  obtain ⟨vt,hv⟩:=g.ivs _ hr
  have hx:=g.u.inO hr
  have hR:=g.u.atR hr
  have hD:=g.u.atD hr
  dsimp only [toP] at hk he hx hR hD hv
  subst hk
  refine U_get S (by lia) (by decide) H2 (a3.trans od3) hR hx.1 he hD (by lia) fun s S=>?_
  refine .inl ⟨_,_,rfl,UG.out S,fun s' S=>?_⟩
  rw [hv]
  refine h1 (toP (x,v)) hp0 rfl he _ vt s' ⟨?_⟩ (UG.fin S)
  have e:dropP x.k ps++[toP (x,v)]=(dropK x.k g.rs++[(x,v)]).map toP:=move_map g.hps
  rw [e]
  have um:=g.u.move hr
  exact UX.g um lB (by rw [List.length_append,List.length_singleton]; have:=(g.u.split hr).length_eq; rw [List.length_cons] at this; have:=g.hroom; lia) (fun z=>by have:=g.dry z; rw [this] at hr; cases hr) (fun r hr'=>by
   rcases List.mem_append.mp hr' with hr' | hr'
   ·exact g.ivs r (dropK_sub r hr')
   ·rw [List.mem_singleton] at hr'; subst hr'; exact ⟨vt,hv⟩)
 ·have hno':=nohit (key:=key) (t:=t+q.K.step) (rs:=g.rs) (by rw [← g.hps]; exact hno)
  refine U_get_no S (by lia) (by decide) H2 (a3.trans od3) (g.u.hit_no hno') fun s S=>?_
  refine .inl ⟨_,_,rfl,UG.out S,fun s' S=>h2 hno _ s' ⟨?g⟩ (UG.fin S)⟩
  exact UX.g' g.hps g.u lB g.hroom g.dry g.ivs
noncomputable def U_deed_pop_P (ps:List PR) (B:Nat) (X:List Cell) (t m key dv:Int) (kt dt:Tok):Prop:=∀ (g:UG q ps B X) (hB:B≤600) (ok:Ok A L) (S:St c (X++(q.K.G t m++L)) s) (h1:∀ p∈ps,p.k=key→t+q.K.step<p.e→∀ X' vt s',Nonempty (UG q (dropP key ps) B X')→St c (X'++(q.K.G (t+q.K.step) (m+1)++L)) s'→R (.ok (.ret (.int p.v vt))) s') (h2:(∀ p∈ps,p.k=key→¬ t+q.K.step<p.e)→∀ X' s',Nonempty (UG q ps B X')→St c (X'++(q.K.G (t+q.K.step) (m+1)++L)) s'→R (.ok (.ret (.int dv dt))) s'),codeAny c.M A (.call (.ref 988) ⟨[.ref q.ca,.int key kt,.int dv dt],[]⟩) R s
theorem U_deed_pop {ps:List PR}{B:Nat}{X:List Cell}{t m key dv:Int}{kt dt:Tok}:@U_deed_pop_P c L s A R q ps B X t m key dv kt dt:=by
 revert c L s A R q ps B X t m key dv kt dt
 walk_at "e5"; intro c L s A R
 walk_at "e9"; intro q ps B X t m key dv kt
 walk_at "e1"; intro dt
 intro g hB ok S h1 h2
 obtain ⟨od1,od2,od3,od4⟩:=ok
 refine W988 (c:=c) cls1373 (l:=q.D (.int g.m g.mtk) g.od) (by rfl) (by rfl) (g.st0 S) (by lia) od4 (fun p hp=>by walk_at "m") fun A' fr ta ka s a1 a2 a3 H1 S=>?_
 have S:=g.inn S
 have lr:=g.u.rlen
 have ld:=g.u.dlen
 have lo:=g.u.olen
 have lB:=g.hB
 have H2:Frs A' ((g.od,LiP (irefs g.os))::(q.K.G (t+q.K.step) (m+1)++(q.U.G++(HX fr q.ca ta ka (.int key kt) (.int dv dt)++L)))):=H1.sub fun p hp=>.tail _ (List.mem_append_right _ (List.mem_append_right _ hp))
 rcases hit_iff (ps:=ps) (key:=key) (t:=t+q.K.step) with ⟨p,hp,hk,he⟩ | hno
 ·have hp0:=hp
  rw [g.hps] at hp
  obtain ⟨⟨x,v⟩,hr,rfl⟩:=toP_mem hp
  obtain ⟨vt,hv⟩:=g.ivs _ hr
  have hx:=g.u.inO hr
  have hR:=g.u.atR hr
  have hD:=g.u.atD hr
  dsimp only [toP] at hk he hx hR hD hv
  subst hk
  obtain ⟨us,vs,hos⟩:=List.append_of_mem hx.1
  rw [hos] at S H2
  refine U_pop S (by lia) (by decide) (by decide) H2 (a3.trans od3) hR he hD (by lia) (by lia) fun tk s S=>?_
  have e:irefs (us++x::vs)=irefs (us++x.gone::vs):=by unfold irefs; simp [It.gone]
  rw [e] at S
  refine .inl ⟨_,_,rfl,UG.out S,fun s' S=>?_⟩
  rw [hv]
  refine h1 (toP (x,v)) hp0 rfl he _ vt s' ⟨?_⟩ (UG.fin S)
  have e:dropP x.k ps=(dropK x.k g.rs).map toP:=drop_map' g.hps
  show UG q (dropP x.k ps) B _
  rw [e]
  have u0:=g.u
  rw [hos] at u0 lB
  have um:=u0.del hr
  have ldk:(dropK x.k g.rs).length≤g.rs.length:=List.length_filter_le _ _
  exact UX.g um (by simpa [List.length_append] using lB) (by have:=g.hroom; lia) (fun z=>by have:=g.dry z; rw [this] at hr; cases hr) (g.ivs.sub dropK_sub)
 ·have hno':=nohit (key:=key) (t:=t+q.K.step) (rs:=g.rs) (by rw [← g.hps]; exact hno)
  refine U_pop_no S (by lia) (by decide) H2 (a3.trans od3) (g.u.hit_no hno') fun s S=>?_
  refine .inl ⟨_,_,rfl,UG.out S,fun s' S=>h2 hno _ s' ⟨?g⟩ (UG.fin S)⟩
  exact UX.g' g.hps g.u lB g.hroom g.dry g.ivs
end
end
section
section
variable {q:UCfg c}{od:Addr}{env:Env}{fr:Addr}
theorem living_map' {ps:List PR}{rs:List (It × Value)}{t:Int} (h:ps=rs.map toP):livingP t ps=(alive t rs).map toP:=by subst h; exact living_map
theorem put_map' {ps:List PR}{rs:List (It × Value)}{room key v t e:Int}{x:It}{vt:Tok} (h:ps=rs.map toP) (h1:x.k=key) (h2:x.e=e):putP room key v e (livingP t ps)=(dropK key (stays room key (alive t rs))++[(x,Value.int v vt)]).map toP:=by subst h; exact (put_map h1 h2).symm
theorem sd_in {rows data:List (Int × Value)}{os:List It}{m t0 m0 t1:Int}{mtk:Tok}{P1:Cell}{H0:List Cell}
  (S:St c ((q.ca,InstP 1373 q.cd)::(q.cd,Dm (q.D (.int m mtk) od))::(q.dd,DI c data)::(q.it,DI c rows)::(q.tm,InstP 929 q.td)::(q.td,Tms q.K.clk 1 t1)::(od,LiP (irefs os))::(itCells os++(q.K.G t0 m0++(q.U.G++(P1::(H0++L)))))) s) :
  St c (P1::(q.ca,InstP 1373 q.cd)::(q.cd,Dm (q.D (.int m mtk) od))::(q.dd,DI c data)::(q.it,DI c rows)::(q.tm,InstP 929 q.td)::(q.td,Tmr q.K.clk 1 t1)::(itCells os++((od,LiP (irefs os))::(q.K.G t0 m0++(q.U.G++(H0++L)))))) s:=by
 have S:=S.weak (a:=q.td) (P':=Tmr q.K.clk 1 t1) (by walk_at "r") fun o z=>(Tms.pos (by decide)).mp z
 exact S.perm (by walk_at "d")
theorem sd_inX {rows data:List (Int × Value)}{os:List It}{m t0 m0 t1:Int}{mtk:Tok}{P1:Cell}{H0:List Cell}{e:Addr}{cls v x2:Value}
  (S:Tw c ((q.ca,InstP 1373 q.cd)::(q.cd,Dm (q.D (.int m mtk) od))::(q.dd,DI c data)::(q.it,DI c rows)::(q.tm,InstP 929 q.td)::(q.td,Tms q.K.clk 1 t1)::(od,LiP (irefs os))::(itCells os++(q.K.G t0 m0++(q.U.G++(P1::(H0++L)))))) e cls v x2 s) :
  Tw c (P1::(q.ca,InstP 1373 q.cd)::(q.cd,Dm (q.D (.int m mtk) od))::(q.dd,DI c data)::(q.it,DI c rows)::(q.tm,InstP 929 q.td)::(q.td,Tmr q.K.clk 1 t1)::(itCells os++((od,LiP (irefs os))::(q.K.G t0 m0++(q.U.G++(H0++L)))))) e cls v x2 s:=by
 have S:=S.weak (a:=q.td) (P':=Tmr q.K.clk 1 t1) (by walk_at "r") fun o z=>(Tms.pos (by decide)).mp z
 exact S.perm (by walk_at "d")
theorem sd_to {rows data:List (Int × Value)}{os:List It}{m t0 m0 t1:Int}{mtk:Tok}{H0:List Cell}
  (S:St c ((q.ca,InstP 1373 q.cd)::(q.cd,Dm (q.D (.int m mtk) od))::(q.dd,DI c data)::(q.it,DI c rows)::(q.tm,InstP 929 q.td)::(q.td,Tmr q.K.clk 1 t1)::(itCells os++((od,LiP (irefs os))::(q.K.G t0 m0++(q.U.G++(H0++L)))))) s) :
  St c ((q.ca,InstP 1373 q.cd)::(q.cd,Dm (q.D (.int m mtk) od))::(q.dd,DI c data)::(q.it,DI c rows)::(q.tm,InstP 929 q.td)::(q.td,Tmr q.K.clk 1 t1)::(od,LiP (irefs os))::(itCells os++(q.K.G t0 m0++(q.U.G++(H0++L))))) s:=S.perm (by walk_at "d")
theorem outX {rows data:List (Int × Value)}{os:List It}{m t0 m0:Int}{mtk:Tok}{fr ta ka:Addr}{a b:Value}{e:Addr}{cls v x2:Value}
  (S:Tw c ((q.ca,InstP 1373 q.cd)::(q.cd,Dm (q.D (.int m mtk) od))::(q.dd,DI c data)::(q.it,DI c rows)::(q.tm,InstP 929 q.td)::(q.td,Tmr q.K.clk 1 t0)::(itCells os++((od,LiP (irefs os))::(q.K.G t0 m0++(q.U.G++(HX fr q.ca ta ka a b++L)))))) e cls v x2 s) :
  Tw c (HX fr q.ca ta ka a b++(q.tm,InstP 929 q.td)::(q.td,Tmr q.K.clk 1 t0)::((q.ca,InstP 1373 q.cd)::(q.cd,Dm (q.D (.int m mtk) od))::(q.dd,DI c data)::(q.it,DI c rows)::(od,LiP (irefs os))::(itCells os++(q.U.G++(q.K.G t0 m0++L))))) e cls v x2 s:=by
 simp only [HX,List.cons_append,List.nil_append] at S ⊢
 exact S.perm (by walk_at "d")
theorem finX {rows data:List (Int × Value)}{os:List It}{m t0 m0:Int}{mtk:Tok}{e:Addr}{cls v x2:Value}
  (S:Tw c ((q.tm,InstP 929 q.td)::(q.td,Tm0 q.K.clk)::((q.ca,InstP 1373 q.cd)::(q.cd,Dm (q.D (.int m mtk) od))::(q.dd,DI c data)::(q.it,DI c rows)::(od,LiP (irefs os))::(itCells os++(q.U.G++(q.K.G t0 m0++L))))) e cls v x2 s) :
  Tw c (UX q od rows data os m mtk++(q.K.G t0 m0++L)) e cls v x2 s:=by
 simp only [UX,List.cons_append,List.append_assoc]
 exact S.perm (by exact ixd [2,2,2,2] rfl)
noncomputable def U_deed_setdef_P (ps:List PR) (B:Nat) (X:List Cell) (t m key v:Int) (kt vt:Tok):Prop:=∀ (g:UG q ps B X) (hB:B≤600) (ok:Ok A L) (S:St c (X++(q.K.G t m++L)) s) (h1:∀ p∈ps,p.k=key→t+q.K.step<p.e→∀ X' vt s',Nonempty (UG q (dropP key ps++[p]) B X')→St c (X'++(q.K.G (t+q.K.step) (m+1)++L)) s'→R (.ok (.ret (.int p.v vt))) s') (h2:(∀ p∈ps,p.k=key→¬ t+q.K.step<p.e)→q.U.last≤0→∀ X' s',Nonempty (UG q [] B X')→St c (X'++(q.K.G (t+q.K.step) (m+1)++L)) s'→R (.ok (.ret (.int v vt))) s') (h3:(∀ p∈ps,p.k=key→¬ t+q.K.step<p.e)→0<q.U.last→q.room<1→∀ X' e s',Nonempty (UG q (livingP (t+q.K.step) ps) B X')→Tw c (X'++(q.K.G (t+q.K.step) (m+1)++L)) e (.type "ValueError") .none .none s'→R (.error (.ref e)) s') (h4:(∀ p∈ps,p.k=key→¬ t+q.K.step<p.e)→0<q.U.last→1≤q.room→∀ X' s',Nonempty (UG q (putP q.room key v (t+q.K.step+q.U.last) (livingP (t+q.K.step) ps)) (B+1) X')→St c (X'++(q.K.G (t+q.K.step) (m+1)++L)) s'→R (.ok (.ret (.int v vt))) s'),codeAny c.M A (.call (.ref 995) ⟨[.ref q.ca,.int key kt,.int v vt],[]⟩) R s
theorem U_deed_setdef {ps:List PR}{B:Nat}{X:List Cell}{t m key v:Int}{kt vt:Tok}:@U_deed_setdef_P c L s A R q ps B X t m key v kt vt:=by
 revert c L s A R q ps B X t m key v kt vt
 walk_at "e5"; intro c L s A R
 walk_at "e9"; intro q ps B X t m key v kt
 walk_at "e1"; intro vt
 intro g hB ok S h1 h2 h3 h4
 obtain ⟨od1,od2,od3,od4⟩:=ok
 refine W995 (c:=c) cls1373 (l:=q.D (.int g.m g.mtk) g.od) (by rfl) (by rfl) (g.st0 S) (by lia) od4 (fun p hp=>by walk_at "m") fun A' fr ta ka s a1 a2 a3 H1 S=>?_
 have S:=g.inn S
 have lr:=g.u.rlen
 have ld:=g.u.dlen
 have lo:=g.u.olen
 have lB:=g.hB
 have lrm:=g.hroom
 have la:=alive_le (t:=t+q.K.step) (rs:=g.rs)
 have H2:Frs A' ((g.od,LiP (irefs g.os))::(q.K.G (t+q.K.step) (m+1)++(q.U.G++(HX fr q.ca ta ka (.int key kt) (.int v vt)++L)))):=H1.sub fun p hp=>.tail _ (List.mem_append_right _ (List.mem_append_right _ hp))
 rcases hit_iff (ps:=ps) (key:=key) (t:=t+q.K.step) with ⟨p,hp,hk,he⟩ | hno
 ·have hp0:=hp
  rw [g.hps] at hp
  obtain ⟨⟨x,v0⟩,hr,rfl⟩:=toP_mem hp
  obtain ⟨vt0,hv⟩:=g.ivs _ hr
  have hx:=g.u.inO hr
  have hR:=g.u.atR hr
  have hD:=g.u.atD hr
  dsimp only [toP] at hk he hx hR hD hv
  subst hk
  refine U_setdef S (by lia) (by decide) H2 (a3.trans od3) hR hx.1 he hD (by lia) fun s S=>?_
  refine .inl ⟨_,_,rfl,UG.out S,fun s' S=>?_⟩
  rw [hv]
  refine h1 (toP (x,v0)) hp0 rfl he _ vt0 s' ⟨?_⟩ (UG.fin S)
  have e:dropP x.k ps++[toP (x,v0)]=(dropK x.k g.rs++[(x,v0)]).map toP:=move_map g.hps
  rw [e]
  have um:=g.u.move hr
  exact UX.g um lB (by rw [List.length_append,List.length_singleton]; have:=(g.u.split hr).length_eq; rw [List.length_cons] at this; lia) (fun z=>by have:=g.dry z; rw [this] at hr; cases hr) (fun r hr'=>by
   rcases List.mem_append.mp hr' with hr' | hr'
   ·exact g.ivs r (dropK_sub r hr')
   ·rw [List.mem_singleton] at hr'; subst hr'; exact ⟨vt0,hv⟩)
 ·have hno':=nohit (key:=key) (t:=t+q.K.step) (rs:=g.rs) (by rw [← g.hps]; exact hno)
  refine X_setdef (n:=1) (sd_to S) (by lia) (a3.trans od3) H1 (by decide) g.u hno' fun A2 fr2 s b1 b2 b3 H3 S=>?_
  have hps:=g.hps
  by_cases hl:q.U.last≤0
  ·refine U_setitem_due S (by lia) (by lia) (b3.trans (a3.trans od3)) H3 (by lia) (by decide) (.inl ⟨by decide,rfl,rfl,rfl⟩) g.u hl (by rw [g.dry hl]; rfl) fun tk od' os' rows' data' m' s u' l' S=>?_
   refine .inl ⟨_,rfl,sd_in S,fun s2 S=>.inl ⟨_,_,rfl,UG.out S,fun s' S=>?_⟩⟩
   exact h2 hno hl _ s' ⟨UX.g (rs:=[]) u' (by lia) (by simp; lia) (fun _=>rfl) (fun _ h=>nomatch h)⟩ (UG.fin S)
  ·by_cases hrm:q.room<1
   ·refine U_setitem_refuse S (by lia) (by lia) (b3.trans (a3.trans od3)) H3 (by lia) (by decide) (.inl ⟨by decide,rfl,rfl,rfl⟩) g.u (by lia) hrm fun tk od' os' rows' data' m' e s u' l' X=>?_
    refine .inr ⟨e,_,_,_,rfl,fun p hp=>by walk_at "m", sd_inX X,fun s2 X=>.inr ⟨e,_,_,_,rfl,fun p hp=>by walk_at "m", outX X,fun s' X=>?_⟩⟩
    have e1:livingP (t+q.K.step) ps=(alive (t+q.K.step) g.rs).map toP:=living_map' hps
    exact h3 hno (by lia) hrm _ e s' ⟨UX.g' e1 u' (by lia) (by lia) (fun z=>absurd z hl) (g.ivs.sub alive_sub)⟩ (finX X)
   ·have hrm2:((alive (t+q.K.step) g.rs).length:Int)≤q.room:=by lia
    refine U_setitem S (by lia) (by lia) (b3.trans (a3.trans od3)) (by lia) (by decide) (.inl ⟨by decide,rfl,rfl,rfl⟩) g.u (by lia) hrm2 (by lia) fun x tk od' os' rows' data' s hx1 hx2 u' l' S=>?_
    refine .inl ⟨_,rfl,sd_in S,fun s2 S=>.inl ⟨_,_,rfl,UG.out S,fun s' S=>?_⟩⟩
    have e1:putP q.room key v (t+q.K.step+q.U.last) (livingP (t+q.K.step) ps)=(dropK key (stays q.room key (alive (t+q.K.step) g.rs))++[(x,Value.int v vt)]).map toP:=put_map' hps hx1 hx2
    refine h4 hno (by lia) (by lia) _ s' ⟨UX.g' e1 u' (by lia) ?_ (fun z=>absurd z hl) ?_⟩ (UG.fin S)
    ·rw [List.length_append,List.length_singleton]
     have:=stays_room (k:=key) (by lia) hrm2
     lia
    ·intro r hr
     rcases List.mem_append.mp hr with hr | hr
     ·exact g.ivs r (alive_sub r (stays_sub r (dropK_sub r hr)))
     ·rw [List.mem_singleton] at hr; subst hr; exact ⟨vt,rfl⟩
end
end
section
section
variable {q:UCfg c}{od:Addr}{env:Env}{fr:Addr}
theorem sp_lenU (P:Params):spOk (Mine.K P) 1373 "__len__" 957=true:=by kernel_rfl!
noncomputable def U_deed_popitem_P (ps:List PR) (B:Nat) (X:List Cell) (t m:Int):Prop:=∀ (g:UG q ps B X) (hB:B≤600) (ok:Ok A L) (S:St c (X++(q.K.G t m++L)) s) (h1:livingP (t+q.K.step) ps=[]→∀ X' e x2 s',Nonempty (UG q [] B X')→Tw c (X'++(q.K.G (t+q.K.step) (m+1)++L)) e (.type "KeyError") .none x2 s'→R (.error (.ref e)) s') (h2:∀ p rest,livingP (t+q.K.step) ps=p::rest→∀ X' x kt vt s',Nonempty (UG q rest B X')→St c ((x,TuP [.int p.k kt,.int p.v vt])::(X'++(q.K.G (t+q.K.step) (m+1)++L))) s'→R (.ok (.ret (.ref x))) s'),codeAny c.M A (.call (.ref 1355) ⟨[.ref q.ca],[]⟩) R s
theorem U_deed_popitem {ps:List PR}{B:Nat}{X:List Cell}{t m:Int}:@U_deed_popitem_P c L s A R q ps B X t m:=by
 revert c L s A R q ps B X t m
 walk_at "e5"; intro c L s A R
 walk_at "e5"; intro q ps B X t
 walk_at "e1"; intro m
 intro g hB ok S h1 h2
 obtain ⟨od1,od2,od3,od4⟩:=ok
 have S:=g.st S
 have lB:=g.hB
 have lrm:=g.hroom
 have la:=alive_le (t:=t+q.K.step) (rs:=g.rs)
 have e1:=living_map' (t:=t+q.K.step) g.hps
 have hps:=g.hps
 cases ha:alive (t+q.K.step) g.rs with
 | nil =>
  rw [ha,List.map_nil] at e1
  refine U_popitem_empty S (by lia) (by lia) (od4.sub fun p hp=>List.mem_append_right _ hp) od3 (by lia) (Int.le_refl 0) mv0 g.u ha fun tk od' os' rows' data' m' e x2 s' u' l' X=>?_
  exact h1 e1 _ e x2 s' ⟨UX.g (rs:=[]) u' (by lia) (by simp; lia) (fun _=>rfl) (fun _ h=>nomatch h)⟩ (UX.backX X)
 | cons r rest =>
  rw [ha,List.map_cons] at e1
  have hr:r∈g.rs:=alive_sub (t:=t+q.K.step) r (by rw [ha]; exact .head _)
  obtain ⟨vt,hv⟩:=g.ivs r hr
  refine U_popitem S (by lia) (by lia) od3 (by lia) (Int.le_refl 0) mv0 g.u ha fun x ktk tk od' os' rows' data' m' s' u' l' a' S=>?_
  rw [hv] at S
  have hs:∀ r'∈rest,r'∈g.rs:=fun r' h'=>alive_sub (t:=t+q.K.step) r' (by rw [ha]; exact .tail _ h')
  have ll:rest.length+1=(alive (t+q.K.step) g.rs).length:=by rw [ha]; rfl
  refine h2 (toP r) (rest.map toP) e1 (UX q od' rows' data' os' m' tk) x ktk vt s' ⟨UX.g u' (by lia) (by lia) (fun z=>dry_sub (g.dry) hs z) (g.ivs.sub hs)⟩ ?_
  have S:=S.weak (a:=q.td) (P':=Tm0 q.K.clk) (by walk_at "r") fun o z=>Tms.zero.mp z
  simp only [UX,List.cons_append,List.append_assoc]
  exact S.perm (by walk_at "d")
theorem tolds_ts {rs:List (It × Value)} (hi:Ints rs) {told:List (Addr × Value × Value)} (h:(told.map (·.2)).Perm (tolds rs)):∃ ts:List (Addr × Int × Tok × Int × Tok),told=ts.map (fun x=>(x.1,.int x.2.1 x.2.2.1,.int x.2.2.2.1 x.2.2.2.2))∧(pairsOf ts).Perm ((rs.map toP).map kv):=by
 have all:∀ w∈told,∃ k kt v vt,w.2=(.int k kt,.int v vt):=fun w hw=>by
  obtain ⟨r,hr,e⟩:=List.mem_map.mp (h.subset (List.mem_map.mpr ⟨w,hw,rfl⟩))
  obtain ⟨t,ht⟩:=hi r hr
  exact ⟨r.1.k,r.1.kt,ival r.2,t,by rw [← e,← ht]⟩
 have mk:∀ (told:List (Addr × Value × Value)),(∀ w∈told,∃ k kt v vt,w.2=(.int k kt,.int v vt))→∃ ts:List (Addr × Int × Tok × Int × Tok),told=ts.map (fun x=>(x.1,.int x.2.1 x.2.2.1,.int x.2.2.2.1 x.2.2.2.2)):=by
  intro told
  induction told with
  | nil=>exact fun _=>⟨[],rfl⟩
  | cons w told ih =>
   intro all
   obtain ⟨ts,rfl⟩:=ih fun w' hw=>all w' (.tail _ hw)
   obtain ⟨k,kt,v,vt,e⟩:=all w (.head _)
   refine ⟨(w.1,k,kt,v,vt)::ts,?_⟩
   rw [List.map_cons]
   congr 1
   exact Prod.ext rfl e
 obtain ⟨ts,rfl⟩:=mk told all
 refine ⟨ts,rfl,?_⟩
 have h2:=h.map fun w=>(match w.1 with | .int k _=>k | _=>0,ival w.2)
 unfold tolds at h2
 rw [List.map_map,List.map_map,List.map_map] at h2
 unfold pairsOf
 rw [List.map_map]
 exact h2
noncomputable def U_deed_expire_P (ps:List PR) (B:Nat) (X:List Cell) (t m:Int):Prop:=∀ (g:UG q ps B X) (hB:B≤600) (ok:Ok A L) (S:St c (X++(q.K.G t m++L)) s) (h:∀ X' x ts s',(pairsOf ts).Perm ((deadP (t+q.K.step) ps).map kv)→Nonempty (UG q (livingP (t+q.K.step) ps) B X')→St c ((x,LiP (pairRefs ts))::(pairCells ts++(X'++(q.K.G (t+q.K.step) (m+1)++L)))) s'→R (.ok (.ret (.ref x))) s'),codeAny c.M A (.call (.ref 1348) ⟨[.ref q.ca],[]⟩) R s
theorem U_deed_expire {ps:List PR}{B:Nat}{X:List Cell}{t m:Int}:@U_deed_expire_P c L s A R q ps B X t m:=by
 revert c L s A R q ps B X t m
 walk_at "e5"; intro c L s A R
 walk_at "e5"; intro q ps B X t
 walk_at "e1"; intro m
 intro g hB ok S h
 obtain ⟨od1,od2,od3,od4⟩:=ok
 have S:=g.st0 S
 have lB:=g.hB
 have lrm:=g.hroom
 have la:=alive_le (t:=t+q.K.step) (rs:=g.rs)
 have hps:=g.hps
 have S1:St c ((q.ca,InstP 1373 q.cd)::(q.cd,Dm (q.D (.int g.m g.mtk) g.od))::(q.dd,DI c g.data)::(q.it,DI c g.rows)::(q.tm,InstP 929 q.td)::(q.td,Tm0 q.K.clk)::(g.od,LiP (irefs g.os))::(itCells g.os++(q.K.G t m++(q.U.G++L)))) s:=S.perm (by walk_at "d")
 refine U_expire0 S1 (by lia) (by lia) od3 (by lia) g.u fun xl tk od' os' rows' data' m' told s' u' l' a' ht S=>?_
 obtain ⟨ts,rfl,hp⟩:=tolds_ts (g.ivs.sub fun r hr=>(List.mem_filter.mp hr).1) ht
 have e1:livingP (t+q.K.step) ps=(alive (t+q.K.step) g.rs).map toP:=living_map' hps
 have e2:deadP (t+q.K.step) ps=(dead (t+q.K.step) g.rs).map toP:=by
  have:∀ {ps:List PR}{rs:List (It × Value)} (_:ps=rs.map toP),deadP (t+q.K.step) ps=(dead (t+q.K.step) rs).map toP:=fun h=>by subst h; exact dead_map
  exact this hps
 refine h (UX q od' rows' data' os' m' tk) xl ts s' (by rw [e2]; exact hp) ⟨UX.g' e1 u' (by lia) (by lia) (fun z=>dry_sub g.dry alive_sub z) (g.ivs.sub alive_sub)⟩ ?_
 simp only [List.map_map] at S
 have S2:St c ((xl,LiP (pairRefs ts))::(pairCells ts++((q.ca,InstP 1373 q.cd)::(q.cd,Dm (q.D (.int m' tk) od'))::(q.dd,DI c data')::(q.it,DI c rows')::(q.tm,InstP 929 q.td)::(q.td,Tm0 q.K.clk)::(od',LiP (irefs os'))::(itCells os'++(q.K.G (t+q.K.step) (m+1)++(q.U.G++L)))))) s':=S
 simp only [UX,List.cons_append,List.append_assoc]
 exact S2.perm (by walk_at "d")
noncomputable def U_deed_size_P (ps:List PR) (B:Nat) (X:List Cell) (t m:Int):Prop:=∀ (g:UG q ps B X) (hB:B≤600) (ok:Ok A L) (S:St c (X++(q.K.G t m++L)) s) (h:∀ X' tk s',Nonempty (UG q (livingP (t+q.K.step) ps) B X')→St c (X'++(q.K.G (t+q.K.step) (m+1)++L)) s'→R (.ok (.ret (.int ((livingP (t+q.K.step) ps).length:Nat) tk))) s'),codeAny c.M A (.call (.ref 957) ⟨[.ref q.ca],[]⟩) R s
set_option maxHeartbeats 1000000 in
theorem U_deed_size {ps:List PR}{B:Nat}{X:List Cell}{t m:Int}:@U_deed_size_P c L s A R q ps B X t m:=by
 revert c L s A R q ps B X t m
 walk_at "e5"; intro c L s A R
 walk_at "e5"; intro q ps B X t
 walk_at "e1"; intro m
 intro g hB ok S h
 obtain ⟨od1,od2,od3,od4⟩:=ok
 have S:=g.st S
 have lB:=g.hB
 have lrm:=g.hroom
 have la:=alive_le (t:=t+q.K.step) (rs:=g.rs)
 have hps:=g.hps
 generalize g.od=od at S
 generalize g.mtk=mtk at S
 refine f_call fn957 [(1,.ref q.ca),(42,.ref 805)] S (by lia) (by rfl) (by kernel_rfl!) (by kernel_rfl!) ?_
 intro fr s S
 have F:=fn957
 refine x_cons ?_
 refine x_wN ?_
 walk_at "g"
 rename_i S
 refine ⟨_,_,_,_,rfl,S,by exact ixm 5 rfl,by exact ixm 6 rfl,?_⟩
 refine timer_enter (St.pick2G S (by walk_at "k") (by walk_at "k") (by walk_at "K")) (by rw [depth_deeper]; lia) mv0 fun ttk s S=>?_
 walk_at "g"
 refine g_meth ‹_› (by exact ixn 2 1 rfl rfl) (by walk_at "c") (by exact ixn 2 2 rfl rfl) (by walk_at "i") (by rfl) (by rfl) ?_
 refine To.K keep1348 ?_
 walk_at "g"
 have S:=St.perm (L':=(q.ca,InstP 1373 q.cd)::(q.cd,Dm (q.D (.int g.m mtk) od))::(q.dd,DI c g.data)::(q.it,DI c g.rows)::(od,LiP (irefs g.os))::(itCells g.os++((q.tm,InstP 929 q.td)::(q.td,Tmr q.K.clk (0+1) (t+q.K.step))::(q.K.G (t+q.K.step) (m+1)++(q.U.G++((fr,Nm [(35,.int (t+q.K.step) ttk),(42,.ref 805),(1,.ref q.ca)])::L)))))) ‹_› (by walk_at "d")
 refine ⟨⟨_,S⟩,U_expire (q:=q) S (by rw [depth_deeper]; lia) (by show A.units+3+10<_; lia) od3 (by lia) g.u ?_⟩
 intro xl tk od1 os1 rows1 data1 m1 told s u1 l1 a1 e1 S
 have S:=S.drop.dropG
 have k2:=u1.dlen
 have k3:=u1.olen
 walk_at "g"
 refine To.K keep805 ?_
 walk_at "g"
 refine ⟨⟨_,by assumption⟩,U_len (q:=q) (od:=od1) (St.pick3 ‹_› (by walk_at "k") (by walk_at "k") (by walk_at "k")) (by rw [depth_deeper]; lia) (by lia) ?_⟩
 intro tk2 s S
 walk_at "g"
 refine timer_exit (St.pick2 S (by walk_at "k") (by walk_at "k")) (by rw [depth_deeper]; lia) fun s S=>?_
 walk_at "g"
 have S:=S.dropAt (p:=(fr,_)) (by walk_at "k")
 have e1:livingP (t+q.K.step) ps=(alive (t+q.K.step) g.rs).map toP:=living_map' hps
 have e2:(livingP (t+q.K.step) ps).length=data1.length:=by rw [e1,List.length_map,k2]
 rw [e2] at h
 exact h _ tk2 _ ⟨UX.g' e1 u1 (by lia) (by lia) (fun z=>dry_sub g.dry alive_sub z) (g.ivs.sub alive_sub)⟩ (UX.back (S.perm (by exact ixd [2,2,2,2] rfl)))
theorem UG.instOf {ps:List PR}{B:Nat}{X:List Cell} (g:UG q ps B X):(q.ca,InstP 1373 q.cd)∈X∧(q.cd,Dm (q.D (.int g.m g.mtk) g.od))∈X :=
 have e:=g.hX
 ⟨Eq.mpr (congrArg (fun Y=>(q.ca,InstP 1373 q.cd)∈Y) e) (.head _),Eq.mpr (congrArg (fun Y=>(q.cd,Dm (q.D (.int g.m g.mtk) g.od))∈Y) e) (.tail _ (.head _))⟩
theorem UG.meth {ps:List PR}{B:Nat}{X:List Cell}{k:Nat}{nm:Str}{f:Addr}{pl:Sem Bool}{Q:Value × List Value→Shared→Prop} (g:UG q ps B X) (S:St c L s) (hs:∀ p∈X,p∈L) (hn:N[k]? = some nm) (hk:at1373.lookup k=some (.meth f)) (hv:(q.D (.int g.m g.mtk) g.od).lookup k=none)
  (h:Q (.ref f,[.ref q.ca]) s):wpAny c.M A (getMethod (.ref q.ca) nm pl) Q E s :=
 g_meth S (hs _ g.instOf.1) cls1373 (hs _ g.instOf.2) hn hk hv h
noncomputable def UMem (q:UCfg c):Mem c q.K where
 ca:=q.ca
 C:=1373
 cd:=q.cd
 room:=q.room
 last:=q.U.last
 G:=fun ps _ B X=>Nonempty (UG q ps B X)
 fset:=1319
 fpi:=1355
 fex:=1348
 hold:=q.U.G
 holds:=fun ⟨g⟩ p hp=>by
  have e:=g.hX
  rw [e]
  exact .tail _ (.tail _ (.tail _ (.tail _ (.tail _ (.tail _ (.tail _ (List.mem_append_right _ hp)))))))
 inst:=fun ⟨g⟩=>⟨g.instOf.1,_,g.instOf.2⟩
 nodup:=fun ⟨g⟩=>by have:=g.u.nd; rw [← keys_map,← g.hps] at this; exact this
 len:=fun ⟨g⟩=>by have:=g.hroom; rw [← List.length_map (f:=toP),← g.hps] at this; exact this
 dry:=fun ⟨g⟩ hl=>by have:=g.hps; rw [g.dry hl] at this; exact this
 mono:=fun ⟨g⟩ hB=>⟨⟨g.od,g.rs,g.os,g.rows,g.data,g.m,g.mtk,g.u,Nat.le_trans g.hB hB,g.hroom,g.dry,g.ivs,g.hps,g.hX⟩⟩
 sp_set:=sp_setU
 sp_len:=sp_lenU
 keep_pi:=keep1355
 keep_ex:=keep1348
 m_pop:=fun ⟨g⟩ S hs h=>g.meth S hs ix22 rfl rfl h
 m_get:=fun ⟨g⟩ S hs h=>g.meth S hs ix27 rfl rfl h
 m_setdef:=fun ⟨g⟩ S hs h=>g.meth S hs ix29 rfl rfl h
 m_popitem:=fun ⟨g⟩ S hs h=>g.meth S hs ix20 rfl rfl h
 m_expire:=fun ⟨g⟩ S hs h=>g.meth S hs ix43 rfl rfl h
 set:=fun ⟨g⟩ hB ok S h1 h2 h3=>U_deed_set g hB ok S h1 h2 h3
 pop:=fun ⟨g⟩ hB ok S h1 h2=>U_deed_pop g hB ok S h1 h2
 get:=fun ⟨g⟩ hB ok S h1 h2=>U_deed_get g hB ok S h1 h2
 setdef:=fun ⟨g⟩ hB ok S h1 h2 h3 h4=>U_deed_setdef g hB ok S h1 h2 h3 h4
 popitem:=fun ⟨g⟩ hB ok S h1 h2=>U_deed_popitem g hB ok S h1 h2
 expire:=fun ⟨g⟩ hB ok S h=>U_deed_expire g hB ok S h
 size:=fun ⟨g⟩ hB ok S h=>U_deed_size g hB ok S h
end
end
section
noncomputable def lvD (t:Int) (rs:List Dr):List Dr:=rs.filter fun d=>decide (t<d.e)
noncomputable def exD (t:Int) (rs:List Dr):List Dr:=rs.filter fun d=>!decide (t<d.e)
noncomputable def dropD (k:Int) (rs:List Dr):List Dr:=rs.filter fun d=>decide (d.key≠k)
noncomputable def staysD (room k:Int) (rs:List Dr):List Dr:=if k∈rs.map Dr.key then rs else if (rs.length:Int)+1≤room then rs else rs.tail
noncomputable def toD (d:Dr):PR:=⟨d.key,ival d.val,d.e⟩
structure TI (t last:Int) (rs xs:List Dr) (rows data:List (Int × Value)) (m:Int):Prop where
 rows:rows=rs.map fun d=>(d.key,Value.ref d.a)
 data:data.Perm (rs.map fun d=>(d.key,d.val))
 px:xs.Perm rs
 srt:xs.Pairwise fun a b=>a.e≤b.e
 nd:(rs.map Dr.key).Nodup
 m:m=rs.length
 bd:∀ d∈rs,d.e≤t+last
section
variable {t last:Int}{rs xs:List Dr}{rows data:List (Int × Value)}{m k:Int}{d:Dr}
theorem TI.rkeys (u:TI t last rs xs rows data m):rows.map (·.1)=rs.map Dr.key:=by rw [u.rows,List.map_map]; rfl
theorem TI.dkeys (u:TI t last rs xs rows data m):(data.map (·.1)).Perm (rs.map Dr.key):=by
 have:=u.data.map (·.1)
 rw [List.map_map] at this
 exact this
theorem TI.rnd (u:TI t last rs xs rows data m):(rows.map (·.1)).Nodup:=u.rkeys ▸ u.nd
theorem TI.dnd (u:TI t last rs xs rows data m):(data.map (·.1)).Nodup:=u.dkeys.nodup_iff.mpr u.nd
theorem TI.atR (u:TI t last rs xs rows data m) (h:d∈rs):valueAt rows d.key=some (.ref d.a) :=
 va_mem u.rnd (by rw [u.rows]; exact List.mem_map.mpr ⟨d,h,rfl⟩)
theorem TI.atD (u:TI t last rs xs rows data m) (h:d∈rs):valueAt data d.key=some d.val :=
 va_mem u.dnd (u.data.symm.subset (List.mem_map.mpr ⟨d,h,rfl⟩))
theorem TI.rlen (u:TI t last rs xs rows data m):rows.length=rs.length:=by rw [u.rows,List.length_map]
theorem TI.dlen (u:TI t last rs xs rows data m):data.length=rs.length:=by rw [u.data.length_eq,List.length_map]
theorem TI.xlen (u:TI t last rs xs rows data m):xs.length=rs.length:=u.px.length_eq
theorem key_inj2 {d':Dr} (hn:(rs.map Dr.key).Nodup) (h:d∈rs) (h':d'∈rs) (e:d.key=d'.key):d=d':=by
 induction rs with
 | nil=>cases h
 | cons p rs ih =>
  rw [List.map_cons,List.nodup_cons] at hn
  rcases List.mem_cons.mp h with h | h <;> rcases List.mem_cons.mp h' with h' | h'
  ·exact h.trans h'.symm
  ·exact absurd (List.mem_map.mpr ⟨d',h',by rw [← e,h]⟩) hn.1
  ·exact absurd (List.mem_map.mpr ⟨d,h,by rw [e,h']⟩) hn.1
  ·exact ih hn.2 h h'
theorem TI.xnd (u:TI t last rs xs rows data m):(xs.map Dr.key).Nodup:=(u.px.map _).nodup_iff.mpr u.nd
theorem srt_split {t1:Int}:∀ {xs:List Dr},(xs.Pairwise fun a b=>a.e≤b.e)→xs=exD t1 xs++lvD t1 xs
 | [],_=>rfl
 | x::xs,h=>by
  rw [List.pairwise_cons] at h
  by_cases ht:t1<x.e
  ·have e1:exD t1 (x::xs)=[]:=by
    unfold exD
    rw [List.filter_eq_nil_iff]
    intro y hy
    have:t1<y.e:=by
     rcases List.mem_cons.mp hy with rfl | hy
     ·exact ht
     ·exact Int.lt_of_lt_of_le ht (h.1 y hy)
    simpa using this
   have e2:lvD t1 (x::xs)=x::xs:=by
    unfold lvD
    rw [List.filter_eq_self]
    intro y hy
    have:t1<y.e:=by
     rcases List.mem_cons.mp hy with rfl | hy
     ·exact ht
     ·exact Int.lt_of_lt_of_le ht (h.1 y hy)
    simpa using this
   rw [e1,e2]; rfl
  ·have e1:exD t1 (x::xs)=x::exD t1 xs:=by unfold exD; rw [List.filter_cons_of_pos (by simpa using ht)]
   have e2:lvD t1 (x::xs)=lvD t1 xs:=by unfold lvD; rw [List.filter_cons_of_neg (by simpa using ht)]
   rw [e1,e2,List.cons_append,← srt_split h.2]
theorem due_of {t1:Int}:∀ {ex:List Dr}{rows data:List (Int × Value)},(ex.map Dr.key).Nodup→(∀ d∈ex,valueAt rows d.key=some (.ref d.a)∧valueAt data d.key=some d.val∧¬ t1<d.e)→Due t1 rows data ex
 | [],_,_,_,_=>trivial
 | x::xs,rows,data,hn,h=>by
  rw [List.map_cons,List.nodup_cons] at hn
  refine ⟨(h x (.head _)).1,(h x (.head _)).2.1,(h x (.head _)).2.2,due_of hn.2 fun d hd=>?_⟩
  have hne:d.key≠x.key:=fun z=>hn.1 (List.mem_map.mpr ⟨d,hd,z⟩)
  rw [valueAt_without hne,valueAt_without hne]
  exact h d (.tail _ hd)
theorem TI.due {t1:Int} (u:TI t last rs xs rows data m):Due t1 rows data (exD t1 xs) :=
 due_of ((List.filter_sublist.map _).nodup u.xnd) fun d hd=>by
  have h1:=List.mem_filter.mp hd
  have h2:=u.px.subset h1.1
  exact ⟨u.atR h2,u.atD h2,by simpa using h1.2⟩
theorem TI.keyD {t1:Int} (u:TI t last rs xs rows data m) (h:d∈rs):decide (d.key ∉ (exD t1 xs).map Dr.key)=decide (t1<d.e):=by
 congr 1
 refine propext ⟨fun hk=>?_,fun ht z=>?_⟩
 ·rcases Classical.em (t1<d.e) with h1 | h1
  ·exact h1
  ·exact absurd (List.mem_map.mpr ⟨d,List.mem_filter.mpr ⟨u.px.symm.subset h,by simpa using h1⟩,rfl⟩) hk
 ·obtain ⟨d',hd',e⟩:=List.mem_map.mp z
  have h1:=List.mem_filter.mp hd'
  have:=key_inj2 u.nd (u.px.subset h1.1) h e
  subst this
  exact absurd ht (by simpa using h1.2)
theorem TI.exp {t1:Int} (u:TI t last rs xs rows data m) (ht:t≤t1):TI t1 last (lvD t1 rs) (lvD t1 xs) (outs rows (exD t1 xs)) (outs data (exD t1 xs)) (m-(exD t1 xs).length):=by
 refine ⟨?_,?_,u.px.filter _,u.srt.sublist List.filter_sublist,(List.filter_sublist.map _).nodup u.nd,?_,fun d hd=>?_⟩
 ·unfold outs
  rw [wo_fold,u.rows]
  exact filt_map (p:=fun p:Int × Value=>decide (p.1 ∉ (exD t1 xs).map Dr.key)) (q:=fun d:Dr=>decide (t1<d.e)) fun d hd=>u.keyD hd
 ·unfold outs
  rw [wo_fold]
  refine (u.data.filter _).trans (.of_eq ?_)
  exact filt_map (p:=fun p:Int × Value=>decide (p.1 ∉ (exD t1 xs).map Dr.key)) (q:=fun d:Dr=>decide (t1<d.e)) fun d hd=>u.keyD hd
 ·have h1:=congrArg List.length (srt_split (t1:=t1) u.srt)
  rw [List.length_append] at h1
  have h2:=u.xlen
  have h3:(lvD t1 xs).length=(lvD t1 rs).length:=(u.px.filter _).length_eq
  rw [u.m]
  lia
 ·have:=u.bd d (List.mem_filter.mp hd).1
  lia
theorem dropD_none (h:k ∉ rs.map Dr.key):dropD k rs=rs:=by
 unfold dropD
 rw [List.filter_eq_self]
 intro r hr
 have:r.key≠k:=fun z=>h (List.mem_map.mpr ⟨r,hr,z⟩)
 simpa using this
theorem dropD_split (hn:(rs.map Dr.key).Nodup) (h:d∈rs):rs.Perm (d::dropD d.key rs):=by
 induction rs with
 | nil=>cases h
 | cons r rs ih =>
  rw [List.map_cons,List.nodup_cons] at hn
  rcases List.mem_cons.mp h with e | h
  ·subst e
   have:dropD d.key (d::rs)=dropD d.key rs:=by unfold dropD; rw [List.filter_cons_of_neg (by simp)]
   rw [this,dropD_none hn.1]
  ·have hne:r.key≠d.key:=fun z=>hn.1 (List.mem_map.mpr ⟨_,h,z.symm⟩)
   have:dropD d.key (r::rs)=r::dropD d.key rs:=by unfold dropD; rw [List.filter_cons_of_pos (by simpa using hne)]
   rw [this]
   exact ((ih hn.2 h).cons r).trans (.swap ..)
theorem dropD_at {us vs:List Dr} (hn:((us++d::vs).map Dr.key).Nodup):dropD d.key (us++d::vs)=us++vs:=by
 rw [List.map_append,List.map_cons,List.nodup_append,List.nodup_cons] at hn
 obtain ⟨h1,⟨h2,h3⟩,h4⟩:=hn
 have e1:dropD d.key us=us:=dropD_none fun z=>h4 _ z _ (.head _) rfl
 have e2:dropD d.key (d::vs)=vs:=by
  have:dropD d.key (d::vs)=dropD d.key vs:=by unfold dropD; rw [List.filter_cons_of_neg (by simp)]
  rw [this,dropD_none h2]
 unfold dropD at e1 e2 ⊢
 rw [List.filter_append,e1,e2]
theorem rows_dropD:without (rs.map fun d=>(d.key,Value.ref d.a)) k=(dropD k rs).map fun d=>(d.key,Value.ref d.a):=by
 unfold without dropD
 exact filt_map (p:=fun p:Int × Value=>decide (p.1≠k)) (q:=fun d:Dr=>decide (d.key≠k)) fun _ _=>rfl
theorem data_dropD:without (rs.map fun d=>(d.key,d.val)) k=(dropD k rs).map fun d=>(d.key,d.val):=by
 unfold without dropD
 exact filt_map (p:=fun p:Int × Value=>decide (p.1≠k)) (q:=fun d:Dr=>decide (d.key≠k)) fun _ _=>rfl
theorem TI.del {us vs:List Dr} (u:TI t last rs (us++d::vs) rows data m):TI t last (dropD d.key rs) (us++vs) (without rows d.key) (without data d.key) (m-1):=by
 have h:d∈rs:=u.px.subset (List.mem_append_right _ (.head _))
 have sp:=dropD_split u.nd h
 refine ⟨?_,?_,?_,?_,(List.filter_sublist.map _).nodup u.nd,?_,fun d' hd=>u.bd d' (List.mem_filter.mp hd).1⟩
 ·rw [u.rows,rows_dropD]
 ·exact (wo_perm u.data).trans (by rw [data_dropD])
 ·have:=u.px.filter fun d'=>decide (d'.key≠d.key)
  rw [show (us++d::vs).filter (fun d'=>decide (d'.key≠d.key))=us++vs from dropD_at u.xnd] at this
  exact this
 ·exact u.srt.sublist (List.Sublist.append_left (List.sublist_cons_self _ _) _)
 ·have:=sp.length_eq
  rw [u.m,this,List.length_cons]
  lia
theorem TI.move (u:TI t last rs xs rows data m) (h:d∈rs):TI t last (dropD d.key rs++[d]) xs (without rows d.key++[(d.key,.ref d.a)]) data m:=by
 have sp:rs.Perm (dropD d.key rs++[d]):=(dropD_split u.nd h).trans (List.perm_append_singleton _ _).symm
 refine ⟨?_,u.data.trans (sp.map _),u.px.trans sp,u.srt,(sp.map _).nodup_iff.mp u.nd,?_,fun d' hd=>u.bd d' (sp.symm.subset hd)⟩
 ·rw [u.rows,rows_dropD,List.map_append]; rfl
 ·rw [u.m,sp.length_eq]
theorem TI.later {t1:Int} (u:TI t last rs xs rows data m) (ht:t≤t1):TI t1 last rs xs rows data m :=
 ⟨u.rows,u.data,u.px,u.srt,u.nd,u.m,fun d hd=>by have:=u.bd d hd; lia⟩
noncomputable def LaidD (k:Int) (v:Value) (rs2:List Dr) (data':List (Int × Value)):Prop:=data'.Perm ((dropD k rs2).map (fun d=>(d.key,d.val))++[(k,v)])
theorem TI.laid_old {v:Value} (u:TI t last rs xs rows data m) (h:k∈rs.map Dr.key):LaidD k v rs (stored data k v):=by
 refine (st_old u.dnd (u.dkeys.symm.subset h)).trans ?_
 refine List.Perm.append_right _ ?_
 rw [← data_dropD]
 exact wo_perm u.data
theorem TI.laid_new {v:Value} (u:TI t last rs xs rows data m) (h:k ∉ rs.map Dr.key):LaidD k v rs (stored data k v):=by
 unfold LaidD
 rw [st_new (va_none.mpr fun z=>h (u.dkeys.subset z)),dropD_none h]
 exact u.data.append_right _
theorem TI.dropLen (u:TI t last rs xs rows data m) (h:k∈rs.map Dr.key):rs.length=(dropD k rs).length+1:=by
 obtain ⟨d,hr,rfl⟩:=List.mem_map.mp h
 have:=(dropD_split u.nd hr).length_eq
 rwa [List.length_cons] at this
noncomputable def TI.put_P (room key:Int) (v:Value):Prop:=∀ (u:TI t last rs xs rows data m) (hl:∀ d ∈ rs, t<d.e) (h1:1≤room) (hm:m≤room), ∃ data' xs' mOld dataOld, Put room t data rows (xs.map Dr.nd) m key v data' ((staysD room key rs).map fun d => (d.key, Value.ref d.a)) (xs'.map Dr.nd) ((dropD key (staysD room key rs)).length+1:Nat) ∧
   LaidD key v (staysD room key rs) data'∧xs'.Sublist xs∧TI t last (staysD room key rs) xs' ((staysD room key rs).map fun d=>(d.key,Value.ref d.a)) dataOld mOld
theorem TI.put {room key:Int}{v:Value}:@TI.put_P t last rs xs rows data m room key v:=by
 revert t last rs xs rows data m room key v
 walk_at "e9"; intro t last rs xs rows data m room key
 walk_at "e1"; intro v
 intro u hl h1 hm
 by_cases hk:key∈rs.map Dr.key
 ·have es:staysD room key rs=rs:=if_pos hk
  rw [es]
  refine ⟨stored data key v,xs,m,data,.inl ⟨va_isSome (u.dkeys.symm.subset hk),rfl,u.rows.symm,rfl,?_⟩,u.laid_old hk,.refl _,u.rows ▸ u⟩
  have:=u.dropLen hk
  rw [u.m,this]
 ·have ed:valueAt data key=none:=va_none.mpr fun z=>hk (u.dkeys.subset z)
  by_cases hf:(rs.length:Int)+1≤room
  ·have es:staysD room key rs=rs:=by unfold staysD; rw [if_neg hk,if_pos hf]
   rw [es]
   refine ⟨stored data key v,xs,m,data,.inr (.inl ⟨ed,by rw [u.m]; exact hf,rfl,u.rows.symm,rfl,?_⟩),u.laid_new hk,.refl _,u.rows ▸ u⟩
   rw [u.m,dropD_none hk]; rfl
  ·have es:staysD room key rs=rs.tail:=by unfold staysD; rw [if_neg hk,if_neg hf]
   rw [es]
   have um:=u.m
   cases rs with
   | nil=>exact absurd (by show (0:Int)+1≤_; lia) hf
   | cons d rest =>
    rw [List.tail_cons]
    have hk2:key ∉ rest.map Dr.key:=fun z=>hk (.tail _ z)
    obtain ⟨us,vs,hxs⟩:=List.append_of_mem (u.px.symm.subset (.head _))
    rw [hxs] at u ⊢
    have ud:=u.del
    have hdr:dropD d.key (d::rest)=rest:=dropD_at (us:=[]) u.nd
    rw [hdr] at ud
    rw [List.length_cons] at um hf
    have er:without rows d.key=rest.map fun d=>(d.key,Value.ref d.a):=ud.rows
    refine ⟨stored (without data d.key) key v,us++vs,m-1,without data d.key,.inr (.inr ⟨ed,by lia,us.map Dr.nd,vs.map Dr.nd,d.nd,d.key,rest.map (fun d=>(d.key,Value.ref d.a)),d.val,d.e,d.etk,?_,?_,u.atD (.head _),rfl,hl d (.head _),rfl,er.symm,?_,?_⟩),?_,List.Sublist.append_left (List.sublist_cons_self _ _) _,er ▸ ud⟩
    ·rw [List.map_append,List.map_cons]
    ·rw [u.rows]; rfl
    ·rw [List.map_append]
    ·rw [dropD_none hk2]; lia
    ·exact ud.laid_new hk2
noncomputable def TI.lay_P (key:Int) (v:Value) (kt:Tok) (rows' rows'' data' dataOld:List (Int × Value)) (mOld:Int) (etk:Tok) (a dx:Addr) (rs2 xs2:List Dr) (ring'':List Nd):Prop:=∀ (u:TI t last rs2 xs2 rows' dataOld mOld) (hd:LaidD key v rs2 data') (hadr:(xs2.map Dr.a).Nodup) (hl:Lay a dx key kt (t+last) etk rows' (xs2.map Dr.nd) rows'' ring''),∃ n xs3,n.key=key∧n.e=t+last∧n.val=v∧ring''=xs3.map Dr.nd∧TI t last (dropD key rs2++[n]) xs3 rows'' data' ((dropD key rs2).length+1:Nat)
theorem TI.lay {key:Int}{v:Value}{kt:Tok}{rows' rows'' data' dataOld:List (Int × Value)}{mOld:Int}{etk:Tok}{a dx:Addr}{rs2 xs2:List Dr}{ring'':List Nd}:@TI.lay_P t last key v kt rows' rows'' data' dataOld mOld etk a dx rs2 xs2 ring'':=by
 revert t last key v kt rows' rows'' data' dataOld mOld etk a dx rs2 xs2 ring''
 walk_at "e9"; intro t last key v kt rows' rows'' data' dataOld
 walk_at "e5"; intro mOld etk a dx rs2
 walk_at "e2"; intro xs2 ring''
 intro u hd hadr hl
 have fin:∀ (n:Dr) (xs':List Dr),n.key=key→n.e=t+last→n.val=v→xs'=dropD key xs2→rows''=(dropD key rs2).map (fun d=>(d.key,Value.ref d.a))++[(key,.ref n.a)]→TI t last (dropD key rs2++[n]) (xs'++[n]) rows'' data' ((dropD key rs2).length+1:Nat):=by
  intro n xs' h1 h2 h3 h4 h5
  refine ⟨?_,?_,?_,?_,?_,?_,?_⟩
  ·rw [h5,List.map_append,List.map_singleton,h1]
  ·rw [List.map_append,List.map_singleton,h1,h3]; exact hd
  ·rw [h4]; exact (u.px.filter _).append_right _
  ·rw [List.pairwise_append]
   refine ⟨h4 ▸ u.srt.sublist List.filter_sublist,List.pairwise_singleton _ _,fun x hx y hy=>?_⟩
   rw [List.mem_singleton] at hy
   subst hy
   rw [h4] at hx
   have:=u.bd x (u.px.subset (List.mem_filter.mp hx).1)
   lia
  ·rw [List.map_append,List.map_singleton,List.nodup_append]
   refine ⟨(List.filter_sublist.map _).nodup u.nd,by simp,fun x hx b hb=>?_⟩
   rw [List.mem_singleton] at hb
   subst hb
   obtain ⟨r,hr,rfl⟩:=List.mem_map.mp hx
   have:=(List.mem_filter.mp hr).2
   rw [h1]
   simpa using this
  ·rw [List.length_append]; rfl
  ·intro d hd
   rcases List.mem_append.mp hd with hd | hd
   ·exact u.bd d (List.mem_filter.mp hd).1
   ·rw [List.mem_singleton] at hd; subst hd; lia
 rcases hl with ⟨h1,h2,h3⟩ | ⟨us,vs,nd,h1,h2,h3,h4,h5,h6⟩
 ·have hk:key ∉ rs2.map Dr.key:=by rw [← u.rkeys]; exact va_none.mp h1
  have hkx:key ∉ xs2.map Dr.key:=fun z=>hk ((u.px.map _).subset z)
  refine ⟨⟨key,kt,v,t+last,etk,a,dx⟩,xs2++[⟨key,kt,v,t+last,etk,a,dx⟩],rfl,rfl,rfl,?_,fin _ xs2 rfl rfl rfl (dropD_none hkx).symm ?_⟩
  ·rw [h3,List.map_append]; rfl
  ·rw [h2,st_new h1,u.rows,dropD_none hk]
 ·obtain ⟨w,hw,e⟩:=List.mem_map.mp (show key∈rs2.map Dr.key by rw [← u.rkeys]; exact Classical.byContradiction fun z=>by rw [va_none.mpr z] at h1; cases h1)
  subst e
  have h1':=u.atR hw
  rw [h1] at h1'
  have ea:nd.a=w.a:=by injection h1' with h1'; injection h1'
  obtain ⟨us',vs',e1,e2,e3⟩:=List.map_eq_append_iff.mp h2
  obtain ⟨w',vs2,rfl,e4,e5⟩:=List.map_eq_cons_iff.mp e3
  have hw2:w∈us'++w'::vs2:=by rw [← e1]; exact u.px.symm.subset hw
  have:w=w':=by
   rw [e1] at hadr
   refine Classical.byContradiction fun hne=>?_
   rw [List.map_append,List.map_cons,List.nodup_append,List.nodup_cons] at hadr
   obtain ⟨a1,⟨a2,a3⟩,a4⟩:=hadr
   have ea':w'.a=w.a:=by rw [← ea,← e4]; rfl
   rcases List.mem_append.mp hw2 with z | z
   ·exact a4 _ (List.mem_map.mpr ⟨w,z,rfl⟩) _ (.head _) ea'.symm
   ·rcases List.mem_cons.mp z with z | z
    ·exact hne z
    ·exact a2 (List.mem_map.mpr ⟨w,z,ea'.symm⟩)
  subst this
  refine ⟨⟨w.key,w.ktk,v,t+last,etk,w.a,w.dx⟩,us'++vs2++[⟨w.key,w.ktk,v,t+last,etk,w.a,w.dx⟩],rfl,rfl,rfl,?_,fin ⟨w.key,w.ktk,v,t+last,etk,w.a,w.dx⟩ (us'++vs2) rfl rfl rfl ?_ ?_⟩
  ·rw [h6,List.map_append,List.map_append,e2,e5,← e4]; rfl
  ·have hx:=u.xnd
   rw [e1] at hx ⊢
   exact (dropD_at hx).symm
  ·rw [h5,dl_moved,u.rows,rows_dropD,ea]
theorem TI.at {key:Int} (u:TI t last rs xs rows data m):valueAt rows key=none∨∃ us vs nd,valueAt rows key=some (.ref nd.a)∧xs.map Dr.nd=us++nd::vs:=by
 by_cases hk:key∈rs.map Dr.key
 ·obtain ⟨d,hd,rfl⟩:=List.mem_map.mp hk
  obtain ⟨us,vs,hxs⟩:=List.append_of_mem (u.px.symm.subset hd)
  exact .inr ⟨us.map Dr.nd,vs.map Dr.nd,d.nd,u.atR hd,by rw [hxs,List.map_append,List.map_cons]⟩
 ·exact .inl (va_none.mpr (by rw [u.rkeys]; exact hk))
theorem TI.hit_no {key t1:Int} (u:TI t last rs xs rows data m) (h:∀ d∈rs,d.key=key→¬ t1<d.e):Hit rows (xs.map Dr.nd) key t1 false:=by
 by_cases hk:key∈rs.map Dr.key
 ·obtain ⟨d,hd,rfl⟩:=List.mem_map.mp hk
  exact .inl ⟨d.nd,d.e,d.etk,u.atR hd,List.mem_map.mpr ⟨d,u.px.symm.subset hd,rfl⟩,rfl,(decide_eq_false (h d hd rfl)).symm⟩
 ·exact .inr ⟨va_none.mpr (by rw [u.rkeys]; exact hk),rfl⟩
theorem lvD_live {t1:Int}:∀ b bs,(lvD t1 xs).map Dr.nd=b::bs→∃ e etk,b.e=.int e etk∧t1<e:=by
 intro b bs h
 obtain ⟨d,ds,h1,rfl,h3⟩:=List.map_eq_cons_iff.mp h
 refine ⟨d.e,d.etk,rfl,?_⟩
 have:d∈lvD t1 xs:=by rw [h1]; exact .head _
 simpa using (List.mem_filter.mp this).2
theorem livingD_map {t1:Int}{ps:List PR} (h:ps=rs.map toD):livingP t1 ps=(lvD t1 rs).map toD:=by subst h; exact filt_map fun _ _=>rfl
theorem deadD_map {t1:Int}{ps:List PR} (h:ps=rs.map toD):deadP t1 ps=(exD t1 rs).map toD:=by subst h; exact filt_map fun _ _=>rfl
theorem dropD_map {ps:List PR} (h:ps=rs.map toD):dropP k ps=(dropD k rs).map toD:=by subst h; exact filt_map fun _ _=>rfl
theorem staysD_map {room:Int}{ps:List PR} (h:ps=rs.map toD):staysP room k ps=(staysD room k rs).map toD:=by
 subst h
 unfold staysP staysD
 rw [show (rs.map toD).map (·.k)=rs.map Dr.key from by rw [List.map_map]; rfl,List.length_map]
 split
 ·rfl
 ·split
  ·rfl
  ·rw [List.map_tail]
theorem links_adr:∀ (ns:List Nd) (p n:Addr),(ns.map Nd.a).Sublist ((links p ns n).map (·.1))
 | [],_,_=>List.nil_sublist _
 | b::bs,p,n=>by
  rw [links_cons,List.map_cons,List.map_cons,List.map_cons]
  exact ((links_adr bs b.a n).cons _).cons_cons _
theorem ring_adr {c:Cx}{root:Nd}{L:List Cell}{s:Shared} (S:St c (Ring root (xs.map Dr.nd)++L) s):(xs.map Dr.a).Nodup:=by
 have h:=S.nodup
 rw [List.map_append,List.nodup_append] at h
 have h2:=(links_adr (root::xs.map Dr.nd) _ _).nodup h.1
 rw [List.map_cons,List.nodup_cons,List.map_map] at h2
 exact h2.2
end
end
section
section
variable {q:TCfg c}{env:Env}{fr:Addr}
noncomputable def IntsD (rs:List Dr):Prop:=∀ d∈rs,∃ t,d.val=.int (ival d.val) t
theorem IntsD.sub {rs rs':List Dr} (h:IntsD rs) (hs:∀ r∈rs',r∈rs):IntsD rs':=fun r hr=>h r (hs r hr)
theorem lvD_sub {t:Int}{rs:List Dr}:∀ r∈lvD t rs,r∈rs:=fun _ h=>(List.mem_filter.mp h).1
theorem dropD_sub {k:Int}{rs:List Dr}:∀ r∈dropD k rs,r∈rs:=fun _ h=>(List.mem_filter.mp h).1
theorem staysD_sub {room k:Int}{rs:List Dr}:∀ r∈staysD room k rs,r∈rs:=by
 unfold staysD
 split
 ·exact fun _ h=>h
 ·split
  ·exact fun _ h=>h
  ·exact fun _ h=>List.mem_of_mem_tail h
theorem lvD_le {t:Int}{rs:List Dr}:(lvD t rs).length≤rs.length:=List.length_filter_le _ _
theorem exD_le {t:Int}{rs:List Dr}:(exD t rs).length≤rs.length:=List.length_filter_le _ _
theorem dropD_le {k:Int}{rs:List Dr}:(dropD k rs).length≤rs.length:=List.length_filter_le _ _
theorem staysD_le {room k:Int}{rs:List Dr}:(staysD room k rs).length≤rs.length:=by
 unfold staysD
 split
 ·exact Nat.le_refl _
 ·split
  ·exact Nat.le_refl _
  ·rw [List.length_tail]; lia
theorem staysD_room {room k:Int}{rs:List Dr} (h1:1≤room) (h:(rs.length:Int)≤room):((dropD k (staysD room k rs)).length:Int)+1≤room:=by
 unfold staysD
 by_cases hk:k∈rs.map Dr.key
 ·rw [if_pos hk]
  obtain ⟨d,hr,rfl⟩:=List.mem_map.mp hk
  have:(dropD d.key rs).length<rs.length:=by
   unfold dropD
   exact List.length_filter_lt_length_iff_exists.mpr ⟨d,hr,by simp⟩
  lia
 ·rw [if_neg hk]
  by_cases h2:(rs.length:Int)+1≤room
  ·rw [if_pos h2,dropD_none hk]; exact h2
  ·rw [if_neg h2]
   have:(dropD k rs.tail).length≤rs.tail.length:=List.length_filter_le _ _
   rw [List.length_tail] at this
   lia
noncomputable abbrev TX (q:TCfg c) (rows data:List (Int × Value)) (ring:List Nd) (m:Int) (mtk:Tok):List Cell :=
 (q.ca,InstP 1155 q.cd)::(q.cd,Dm (q.D (.int m mtk)))::(q.dd,DI c data)::(q.lk,DI c rows)::(q.tm,InstP 929 q.td)::(q.td,Tm0 q.K.clk)::Ring q.root ring
set_option genInjectivity false in
structure TG (q:TCfg c) (ps:List PR) (t:Int) (X:List Cell) where
 rs:List Dr
 xs:List Dr
 rows:List (Int × Value)
 data:List (Int × Value)
 m:Int
 mtk:Tok
 u:TI t q.last rs xs rows data m
 hroom:(rs.length:Int)≤max q.room 0
 ivs:IntsD rs
 hps:ps=rs.map toD
 hX:X=TX q rows data (xs.map Dr.nd) m mtk
theorem TG.st0 {ps:List PR}{t:Int}{X:List Cell}{t0 m0:Int} (g:TG q ps t X) (S:St c (X++(q.K.G t0 m0++L)) s) :
  St c ((q.ca,InstP 1155 q.cd)::(q.cd,Dm (q.D (.int g.m g.mtk)))::(q.tm,InstP 929 q.td)::(q.td,Tm0 q.K.clk)::(q.K.G t0 m0++((q.dd,DI c g.data)::(q.lk,DI c g.rows)::(Ring q.root (g.xs.map Dr.nd)++L)))) s:=by
 rw [g.hX] at S
 simp only [TX,List.cons_append,List.append_assoc] at S
 exact S.perm (by walk_at "d")
theorem TG.st {ps:List PR}{t:Int}{X:List Cell}{t0 m0:Int} (g:TG q ps t X) (S:St c (X++(q.K.G t0 m0++L)) s) :
  St c ((q.ca,InstP 1155 q.cd)::(q.cd,Dm (q.D (.int g.m g.mtk)))::(q.dd,DI c g.data)::(q.lk,DI c g.rows)::(q.tm,InstP 929 q.td)::(q.td,Tms q.K.clk 0 0)::(Ring q.root (g.xs.map Dr.nd)++(q.K.G t0 m0++L))) s:=by
 rw [g.hX] at S
 simp only [TX,List.cons_append,List.append_assoc] at S
 exact S.weak (a:=q.td) (P':=Tms q.K.clk 0 0) (by walk_at "r") fun o z=>Tms.zero.mpr z
theorem TX.back {rows data:List (Int × Value)}{ring:List Nd}{m t0 m0:Int}{mtk:Tok}
  (S:St c ((q.ca,InstP 1155 q.cd)::(q.cd,Dm (q.D (.int m mtk)))::(q.dd,DI c data)::(q.lk,DI c rows)::(q.tm,InstP 929 q.td)::(q.td,Tms q.K.clk 0 t0)::(Ring q.root ring++(q.K.G t0 m0++L))) s) :
  St c (TX q rows data ring m mtk++(q.K.G t0 m0++L)) s:=by
 have S:=S.weak (a:=q.td) (P':=Tm0 q.K.clk) (by walk_at "r") fun o z=>Tms.zero.mp z
 exact S
theorem TX.backX {rows data:List (Int × Value)}{ring:List Nd}{m t0 m0:Int}{mtk:Tok}{e:Addr}{cls v x2:Value}
  (S:Tw c ((q.ca,InstP 1155 q.cd)::(q.cd,Dm (q.D (.int m mtk)))::(q.dd,DI c data)::(q.lk,DI c rows)::(q.tm,InstP 929 q.td)::(q.td,Tms q.K.clk 0 t0)::(Ring q.root ring++(q.K.G t0 m0++L))) e cls v x2 s) :
  Tw c (TX q rows data ring m mtk++(q.K.G t0 m0++L)) e cls v x2 s:=by
 have S:=S.weak (a:=q.td) (P':=Tm0 q.K.clk) (by walk_at "r") fun o z=>Tms.zero.mp z
 exact S
noncomputable def TX.g {ps:List PR}{t:Int}{rs xs:List Dr}{rows data:List (Int × Value)}{m:Int}{mtk:Tok} (hps:ps=rs.map toD) (u:TI t q.last rs xs rows data m) (hroom:(rs.length:Int)≤max q.room 0) (ivs:IntsD rs):TG q ps t (TX q rows data (xs.map Dr.nd) m mtk) :=
 ⟨rs,xs,rows,data,m,mtk,u,hroom,ivs,hps,rfl⟩
theorem ring_split2 {t1:Int}{xs:List Dr} (h:xs.Pairwise fun a b=>a.e≤b.e):xs.map Dr.nd=(exD t1 xs).map Dr.nd++(lvD t1 xs).map Dr.nd:=by
 conv=>lhs; rw [srt_split (t1:=t1) h]
 rw [List.map_append]
theorem TI.live {t1 last t:Int}{rs xs:List Dr}{rows data:List (Int × Value)}{m:Int} (_:TI t last rs xs rows data m):∀ d∈lvD t1 rs,t1<d.e:=fun d hd=>by simpa using (List.mem_filter.mp hd).2
theorem putD_map {ps:List PR}{rs:List Dr}{room key v t e:Int}{n:Dr}{vt:Tok} (h:ps=rs.map toD) (h1:n.key=key) (h2:n.e=e) (h3:n.val=.int v vt):putP room key v e (livingP t ps)=(dropD key (staysD room key (lvD t rs))++[n]).map toD:=by
 unfold putP
 rw [staysD_map (livingD_map h),dropD_map rfl,List.map_append,List.map_singleton]
 congr 2
 obtain ⟨a,b,cc,d,f,g,i⟩:=n
 dsimp only at h1 h2 h3
 subst h1 h2 h3
 rfl
noncomputable def T_deed_set_P (ps:List PR) (X:List Cell) (t m key v:Int) (kt vt:Tok):Prop:=∀ (hlast:0<q.last) (hstep:0≤q.K.step) (hsm:q.room≤100) (g:TG q ps t X) (ok:Ok A L) (S:St c (X++(q.K.G t m++L)) s) (h2:q.room<1→∀ X' e s',Nonempty (TG q (livingP (t+q.K.step) ps) (t+q.K.step) X')→Tw c (X'++(q.K.G (t+q.K.step) (m+1)++L)) e (.type "ValueError") .none .none s'→R (.error (.ref e)) s') (h3:1≤q.room→∀ X' s',Nonempty (TG q (putP q.room key v (t+q.K.step+q.last) (livingP (t+q.K.step) ps)) (t+q.K.step) X')→St c (X'++(q.K.G (t+q.K.step) (m+1)++L)) s'→R (.ok (.ret .none)) s'),codeAny c.M A (.call (.ref 1100) ⟨[.ref q.ca,.int key kt,.int v vt],[]⟩) R s
theorem T_deed_set {ps:List PR}{X:List Cell}{t m key v:Int}{kt vt:Tok}:@T_deed_set_P c L s A R q ps X t m key v kt vt:=by
 revert c L s A R q ps X t m key v kt vt
 walk_at "e5"; intro c L s A R
 walk_at "e9"; intro q ps X t m key v kt vt
 intro hlast hstep hsm g ok S h2 h3
 obtain ⟨od1,od2,od3,od4⟩:=ok
 have S:=g.st S
 obtain ⟨rs,xs,rows,data,m1,mtk,u,hroom,ivs,hps,hX⟩:=g
 dsimp only at S
 have u1:=u.exp (t1:=t+q.K.step) (by lia)
 have l1:=u.rlen
 have l2:=u.dlen
 have l3:=u.xlen
 have l4:=exD_le (t:=t+q.K.step) (rs:=xs)
 have l5:=lvD_le (t:=t+q.K.step) (rs:=rs)
 have k1:=u1.rlen
 have k2:=u1.dlen
 have k3:=u1.m
 have adr:=ring_adr (c:=c) (S.pickG (G:=Ring q.root (xs.map Dr.nd)) (by walk_at "K"))
 rw [ring_split2 (t1:=t+q.K.step) u.srt] at S
 by_cases hr:q.room<1
 ·refine T_setitem_refuse S (by lia) od4 od3 (Int.le_refl 0) mv0 hr u.due (by lia) (by lia) (by lia) lvD_live fun tk' e s' X=>?_
  exact h2 hr _ e s' ⟨TX.g (livingD_map hps) u1 (by lia) (ivs.sub lvD_sub)⟩ (TX.backX X)
 ·have hrm:((lvD (t+q.K.step) rs).length:Int)≤q.room:=by lia
  obtain ⟨data',xs',mOld,dataOld,hp,hd,hsub,u2⟩:=u1.put (room:=q.room) (key:=key) (v:=.int v vt) u.live (by lia) (by lia)
  have j1:=u2.rlen
  have j2:=staysD_le (room:=q.room) (k:=key) (rs:=lvD (t+q.K.step) rs)
  refine T_setitem S (by lia) (Int.le_refl 0) mv0 (by lia) u.due (by lia) (by lia) (by lia) lvD_live (by lia) (by lia) (by lia) hp u2.at fun a dx etk tk' rows'' ring'' s' hlay S=>?_
  obtain ⟨n,xs3,n1,n2,n3,rfl,u3⟩:=u2.lay hd (((hsub.trans List.filter_sublist).map _).nodup adr) hlay
  have j3:=staysD_room (k:=key) (by lia) hrm
  refine h3 (by lia) _ s' ⟨TX.g (putD_map hps n1 n2 n3) u3 ?_ ?_⟩ (TX.back S)
  ·rw [List.length_append,List.length_singleton]; lia
  ·intro d hd
   rcases List.mem_append.mp hd with hd | hd
   ·exact ivs d (lvD_sub d (staysD_sub d (dropD_sub d hd)))
   ·rw [List.mem_singleton] at hd; subst hd; exact ⟨vt,by rw [n3]; rfl⟩
end
end
section
section
variable {q:TCfg c}{env:Env}{fr:Addr}
theorem tg_inn {rows data:List (Int × Value)}{ring:List Nd}{m t0 m0:Int}{mtk:Tok}{fr ta ka:Addr}{a b:Value}
  (S:St c ((q.ca,InstP 1155 q.cd)::(q.cd,Dm (q.D (.int m mtk)))::(q.tm,InstP 929 q.td)::(q.td,Tmr q.K.clk 1 t0)::(q.K.G t0 m0++(HX fr q.ca ta ka a b++((q.dd,DI c data)::(q.lk,DI c rows)::(Ring q.root ring++L))))) s) :
  St c ((q.ca,InstP 1155 q.cd)::(q.cd,Dm (q.D (.int m mtk)))::(q.dd,DI c data)::(q.lk,DI c rows)::(q.tm,InstP 929 q.td)::(q.td,Tmr q.K.clk 1 t0)::(Ring q.root ring++(q.K.G t0 m0++(HX fr q.ca ta ka a b++L)))) s:=by
 simp only [HX,List.cons_append,List.nil_append] at S ⊢
 exact S.perm (by walk_at "d")
theorem tg_out {rows data:List (Int × Value)}{ring:List Nd}{m t0 m0:Int}{mtk:Tok}{fr ta ka:Addr}{a b:Value}
  (S:St c ((q.ca,InstP 1155 q.cd)::(q.cd,Dm (q.D (.int m mtk)))::(q.dd,DI c data)::(q.lk,DI c rows)::(q.tm,InstP 929 q.td)::(q.td,Tmr q.K.clk 1 t0)::(Ring q.root ring++(q.K.G t0 m0++(HX fr q.ca ta ka a b++L)))) s) :
  St c (HX fr q.ca ta ka a b++(q.tm,InstP 929 q.td)::(q.td,Tmr q.K.clk 1 t0)::((q.ca,InstP 1155 q.cd)::(q.cd,Dm (q.D (.int m mtk)))::(q.dd,DI c data)::(q.lk,DI c rows)::(Ring q.root ring++(q.K.G t0 m0++L)))) s:=by
 simp only [HX,List.cons_append,List.nil_append] at S ⊢
 exact S.perm (by walk_at "d")
theorem tg_outX {rows data:List (Int × Value)}{ring:List Nd}{m t0 m0:Int}{mtk:Tok}{fr ta ka:Addr}{a b:Value}{e:Addr}{cls v x2:Value}
  (S:Tw c ((q.ca,InstP 1155 q.cd)::(q.cd,Dm (q.D (.int m mtk)))::(q.dd,DI c data)::(q.lk,DI c rows)::(q.tm,InstP 929 q.td)::(q.td,Tmr q.K.clk 1 t0)::(Ring q.root ring++(q.K.G t0 m0++(HX fr q.ca ta ka a b++L)))) e cls v x2 s) :
  Tw c (HX fr q.ca ta ka a b++(q.tm,InstP 929 q.td)::(q.td,Tmr q.K.clk 1 t0)::((q.ca,InstP 1155 q.cd)::(q.cd,Dm (q.D (.int m mtk)))::(q.dd,DI c data)::(q.lk,DI c rows)::(Ring q.root ring++(q.K.G t0 m0++L)))) e cls v x2 s:=by
 simp only [HX,List.cons_append,List.nil_append] at S ⊢
 exact S.perm (by walk_at "d")
theorem tg_fin {rows data:List (Int × Value)}{ring:List Nd}{m t0 m0:Int}{mtk:Tok}
  (S:St c ((q.tm,InstP 929 q.td)::(q.td,Tm0 q.K.clk)::((q.ca,InstP 1155 q.cd)::(q.cd,Dm (q.D (.int m mtk)))::(q.dd,DI c data)::(q.lk,DI c rows)::(Ring q.root ring++(q.K.G t0 m0++L)))) s) :
  St c (TX q rows data ring m mtk++(q.K.G t0 m0++L)) s:=by
 simp only [TX,List.cons_append]
 exact S.perm (by exact ixd [2,2,2,2] rfl)
theorem tg_finX {rows data:List (Int × Value)}{ring:List Nd}{m t0 m0:Int}{mtk:Tok}{e:Addr}{cls v x2:Value}
  (S:Tw c ((q.tm,InstP 929 q.td)::(q.td,Tm0 q.K.clk)::((q.ca,InstP 1155 q.cd)::(q.cd,Dm (q.D (.int m mtk)))::(q.dd,DI c data)::(q.lk,DI c rows)::(Ring q.root ring++(q.K.G t0 m0++L)))) e cls v x2 s) :
  Tw c (TX q rows data ring m mtk++(q.K.G t0 m0++L)) e cls v x2 s:=by
 simp only [TX,List.cons_append]
 exact S.perm (by exact ixd [2,2,2,2] rfl)
theorem toD_mem {rs:List Dr}{ps:List PR}{p:PR} (hps:ps=rs.map toD) (h:p∈ps):∃ d∈rs,toD d=p:=by
 subst hps
 obtain ⟨d,h1,h2⟩:=List.mem_map.mp h
 exact ⟨d,h1,h2⟩
theorem nohitD {rs:List Dr}{ps:List PR}{key t:Int} (hps:ps=rs.map toD) (h:∀ p∈ps,p.k=key→¬ t<p.e):∀ d∈rs,d.key=key→¬ t<d.e :=
 fun d hd=>h (toD d) (by subst hps; exact List.mem_map.mpr ⟨d,hd,rfl⟩)
theorem move_mapD {ps:List PR}{rs:List Dr}{d:Dr} (h:ps=rs.map toD):dropP d.key ps++[toD d]=(dropD d.key rs++[d]).map toD:=by
 rw [dropD_map h,List.map_append]; rfl
theorem moveD_iv {rs:List Dr}{d:Dr} (h:IntsD rs) (hd:d∈rs):IntsD (dropD d.key rs++[d]):=fun x hx=>by
 rcases List.mem_append.mp hx with hx | hx
 ·exact h x (dropD_sub x hx)
 ·rw [List.mem_singleton] at hx; subst hx; exact h _ hd
theorem moveD_len {rs:List Dr}{d:Dr} (hn:(rs.map Dr.key).Nodup) (hd:d∈rs):(dropD d.key rs++[d]).length=rs.length:=by
 have:=(dropD_split hn hd).length_eq
 rw [List.length_append,List.length_singleton]
 rw [List.length_cons] at this
 lia
noncomputable def T_deed_get_P (ps:List PR) (X:List Cell) (t m key dv:Int) (kt dt:Tok):Prop:=∀ (hstep:0≤q.K.step) (hsm:q.room≤100) (g:TG q ps t X) (ok:Ok A L) (S:St c (X++(q.K.G t m++L)) s) (h1:∀ p∈ps,p.k=key→t+q.K.step<p.e→∀ X' vt s',Nonempty (TG q (dropP key ps++[p]) (t+q.K.step) X')→St c (X'++(q.K.G (t+q.K.step) (m+1)++L)) s'→R (.ok (.ret (.int p.v vt))) s') (h2:(∀ p∈ps,p.k=key→¬ t+q.K.step<p.e)→∀ X' s',Nonempty (TG q ps (t+q.K.step) X')→St c (X'++(q.K.G (t+q.K.step) (m+1)++L)) s'→R (.ok (.ret (.int dv dt))) s'),codeAny c.M A (.call (.ref 981) ⟨[.ref q.ca,.int key kt,.int dv dt],[]⟩) R s
theorem T_deed_get {ps:List PR}{X:List Cell}{t m key dv:Int}{kt dt:Tok}:@T_deed_get_P c L s A R q ps X t m key dv kt dt:=by
 revert c L s A R q ps X t m key dv kt dt
 walk_at "e5"; intro c L s A R
 walk_at "e9"; intro q ps X t m key dv kt dt
 intro hstep hsm g ok S h1 h2
 obtain ⟨od1,od2,od3,od4⟩:=ok
 have S:=g.st0 S
 obtain ⟨rs,xs,rows,data,m1,mtk,u,hroom,ivs,hps,hX⟩:=g
 dsimp only at S
 have l1:=u.rlen
 have l2:=u.dlen
 refine W981 (c:=c) cls1155 (l:=q.D (.int m1 mtk)) (by rfl) (by rfl) S (by lia) od4 (fun p hp=>by walk_at "m") fun A' fr ta ka s a1 a2 a3 H1 S=>?_
 have S:=tg_inn S
 have H2:Frs A' (q.K.G (t+q.K.step) (m+1)++(HX fr q.ca ta ka (.int key kt) (.int dv dt)++L)):=H1.sub fun p hp=>List.mem_append_right _ hp
 rcases hit_iff (ps:=ps) (key:=key) (t:=t+q.K.step) with ⟨p,hp,hk,he⟩ | hno
 ·have hp0:=hp
  obtain ⟨d,hr,rfl⟩:=toD_mem hps hp
  obtain ⟨vt0,hv⟩:=ivs _ hr
  have hR:=u.atR hr
  have hD:=u.atD hr
  dsimp only [toD] at hk he
  subst hk
  refine T_get (nd:=d.nd) S (by lia) (by decide) H2 (a3.trans od3) hR (List.mem_map.mpr ⟨d,u.px.symm.subset hr,rfl⟩) rfl he hD (by lia) fun s S=>?_
  refine .inl ⟨_,_,rfl,tg_out S,fun s' S=>?_⟩
  rw [hv]
  refine h1 (toD d) hp0 rfl he _ vt0 s' ⟨TX.g (move_mapD hps) ((u.move hr).later (by lia)) (by rw [moveD_len u.nd hr]; exact hroom) (moveD_iv ivs hr)⟩ (tg_fin S)
 ·have hno':=nohitD hps hno
  refine T_get_no S (by lia) (by decide) H2 (a3.trans od3) (u.hit_no hno') fun s S=>?_
  exact .inl ⟨_,_,rfl,tg_out S,fun s' S=>h2 hno _ s' ⟨TX.g hps (u.later (by lia)) hroom ivs⟩ (tg_fin S)⟩
noncomputable def T_deed_pop_P (ps:List PR) (X:List Cell) (t m key dv:Int) (kt dt:Tok):Prop:=∀ (hstep:0≤q.K.step) (hsm:q.room≤100) (g:TG q ps t X) (ok:Ok A L) (S:St c (X++(q.K.G t m++L)) s) (h1:∀ p∈ps,p.k=key→t+q.K.step<p.e→∀ X' vt s',Nonempty (TG q (dropP key ps) (t+q.K.step) X')→St c (X'++(q.K.G (t+q.K.step) (m+1)++L)) s'→R (.ok (.ret (.int p.v vt))) s') (h2:(∀ p∈ps,p.k=key→¬ t+q.K.step<p.e)→∀ X' s',Nonempty (TG q ps (t+q.K.step) X')→St c (X'++(q.K.G (t+q.K.step) (m+1)++L)) s'→R (.ok (.ret (.int dv dt))) s'),codeAny c.M A (.call (.ref 988) ⟨[.ref q.ca,.int key kt,.int dv dt],[]⟩) R s
theorem T_deed_pop {ps:List PR}{X:List Cell}{t m key dv:Int}{kt dt:Tok}:@T_deed_pop_P c L s A R q ps X t m key dv kt dt:=by
 revert c L s A R q ps X t m key dv kt dt
 walk_at "e5"; intro c L s A R
 walk_at "e9"; intro q ps X t m key dv kt dt
 intro hstep hsm g ok S h1 h2
 obtain ⟨od1,od2,od3,od4⟩:=ok
 have S:=g.st0 S
 obtain ⟨rs,xs,rows,data,m1,mtk,u,hroom,ivs,hps,hX⟩:=g
 dsimp only at S
 have l1:=u.rlen
 have l2:=u.dlen
 refine W988 (c:=c) cls1155 (l:=q.D (.int m1 mtk)) (by rfl) (by rfl) S (by lia) od4 (fun p hp=>by walk_at "m") fun A' fr ta ka s a1 a2 a3 H1 S=>?_
 have S:=tg_inn S
 have H2:Frs A' (q.K.G (t+q.K.step) (m+1)++(HX fr q.ca ta ka (.int key kt) (.int dv dt)++L)):=H1.sub fun p hp=>List.mem_append_right _ hp
 rcases hit_iff (ps:=ps) (key:=key) (t:=t+q.K.step) with ⟨p,hp,hk,he⟩ | hno
 ·have hp0:=hp
  obtain ⟨d,hr,rfl⟩:=toD_mem hps hp
  obtain ⟨vt0,hv⟩:=ivs _ hr
  have hR:=u.atR hr
  have hD:=u.atD hr
  dsimp only [toD] at hk he
  subst hk
  obtain ⟨us,vs,hxs⟩:=List.append_of_mem (u.px.symm.subset hr)
  subst hxs
  rw [List.map_append,List.map_cons] at S
  refine T_pop (nd:=d.nd) S (by lia) (by decide) H2 (a3.trans od3) hR rfl he hD (by lia) (by lia) fun tk s S=>?_
  rw [← List.map_append] at S
  refine .inl ⟨_,_,rfl,tg_out S,fun s' S=>?_⟩
  rw [hv]
  have:=dropD_le (k:=d.key) (rs:=rs)
  refine h1 (toD d) hp0 rfl he _ vt0 s' ⟨TX.g (dropD_map hps) (u.del.later (by lia)) (by lia) (ivs.sub dropD_sub)⟩ (tg_fin S)
 ·have hno':=nohitD hps hno
  refine T_pop_no S (by lia) (by decide) H2 (a3.trans od3) (u.hit_no hno') fun s S=>?_
  exact .inl ⟨_,_,rfl,tg_out S,fun s' S=>h2 hno _ s' ⟨TX.g hps (u.later (by lia)) hroom ivs⟩ (tg_fin S)⟩
noncomputable def T_deed_setdef_P (ps:List PR) (X:List Cell) (t m key v:Int) (kt vt:Tok):Prop:=∀ (hlast:0<q.last) (hstep:0≤q.K.step) (hsm:q.room≤100) (g:TG q ps t X) (ok:Ok A L) (S:St c (X++(q.K.G t m++L)) s) (h1:∀ p∈ps,p.k=key→t+q.K.step<p.e→∀ X' vt s',Nonempty (TG q (dropP key ps++[p]) (t+q.K.step) X')→St c (X'++(q.K.G (t+q.K.step) (m+1)++L)) s'→R (.ok (.ret (.int p.v vt))) s') (h3:(∀ p∈ps,p.k=key→¬ t+q.K.step<p.e)→q.room<1→∀ X' e s',Nonempty (TG q (livingP (t+q.K.step) ps) (t+q.K.step) X')→Tw c (X'++(q.K.G (t+q.K.step) (m+1)++L)) e (.type "ValueError") .none .none s'→R (.error (.ref e)) s') (h4:(∀ p∈ps,p.k=key→¬ t+q.K.step<p.e)→1≤q.room→∀ X' s',Nonempty (TG q (putP q.room key v (t+q.K.step+q.last) (livingP (t+q.K.step) ps)) (t+q.K.step) X')→St c (X'++(q.K.G (t+q.K.step) (m+1)++L)) s'→R (.ok (.ret (.int v vt))) s'),codeAny c.M A (.call (.ref 995) ⟨[.ref q.ca,.int key kt,.int v vt],[]⟩) R s
theorem T_deed_setdef {ps:List PR}{X:List Cell}{t m key v:Int}{kt vt:Tok}:@T_deed_setdef_P c L s A R q ps X t m key v kt vt:=by
 revert c L s A R q ps X t m key v kt vt
 walk_at "e5"; intro c L s A R
 walk_at "e9"; intro q ps X t m key v kt vt
 intro hlast hstep hsm g ok S h1 h3 h4
 obtain ⟨od1,od2,od3,od4⟩:=ok
 have S:=g.st0 S
 obtain ⟨rs,xs,rows,data,m1,mtk,u,hroom,ivs,hps,hX⟩:=g
 dsimp only at S
 have l1:=u.rlen
 have l2:=u.dlen
 refine W995 (c:=c) cls1155 (l:=q.D (.int m1 mtk)) (by rfl) (by rfl) S (by lia) od4 (fun p hp=>by walk_at "m") fun A' fr ta ka s a1 a2 a3 H1 S=>?_
 have S:=tg_inn S
 have H2:Frs A' (q.K.G (t+q.K.step) (m+1)++(HX fr q.ca ta ka (.int key kt) (.int v vt)++L)):=H1.sub fun p hp=>List.mem_append_right _ hp
 rcases hit_iff (ps:=ps) (key:=key) (t:=t+q.K.step) with ⟨p,hp,hk,he⟩ | hno
 ·have hp0:=hp
  obtain ⟨d,hr,rfl⟩:=toD_mem hps hp
  obtain ⟨vt0,hv⟩:=ivs _ hr
  have hR:=u.atR hr
  have hD:=u.atD hr
  dsimp only [toD] at hk he
  subst hk
  refine T_setdef (nd:=d.nd) S (by lia) (by decide) H2 (a3.trans od3) hR (List.mem_map.mpr ⟨d,u.px.symm.subset hr,rfl⟩) rfl he hD (by lia) fun s S=>?_
  refine .inl ⟨_,_,rfl,tg_out S,fun s' S=>?_⟩
  rw [hv]
  refine h1 (toD d) hp0 rfl he _ vt0 s' ⟨TX.g (move_mapD hps) ((u.move hr).later (by lia)) (by rw [moveD_len u.nd hr]; exact hroom) (moveD_iv ivs hr)⟩ (tg_fin S)
 ·have hno':=nohitD hps hno
  have u1:=u.exp (t1:=t+q.K.step) (by lia)
  have l3:=u.xlen
  have l4:=exD_le (t:=t+q.K.step) (rs:=xs)
  have l5:=lvD_le (t:=t+q.K.step) (rs:=rs)
  have k1:=u1.rlen
  have k2:=u1.dlen
  have k3:=u1.m
  have adr:=ring_adr (c:=c) (S.pickG (G:=Ring q.root (xs.map Dr.nd)) (by walk_at "K"))
  have hk:=u.hit_no hno'
  rw [ring_split2 (t1:=t+q.K.step) u.srt] at S hk
  by_cases hrm:q.room<1
  ·refine T_setdef_refuse S (by lia) (by decide) hrm H1 (a3.trans od3) hk u.due (by lia) (by lia) (by lia) lvD_live fun tk' e s' X=>?_
   refine .inr ⟨e,_,_,_,rfl,fun p hp=>by walk_at "m", tg_outX X,fun s' X=>?_⟩
   exact h3 hno hrm _ e s' ⟨TX.g (livingD_map hps) u1 (by lia) (ivs.sub lvD_sub)⟩ (tg_finX X)
  ·have hrm2:((lvD (t+q.K.step) rs).length:Int)≤q.room:=by lia
   obtain ⟨data',xs',mOld,dataOld,hp,hd,hsub,u2⟩:=u1.put (room:=q.room) (key:=key) (v:=.int v vt) u.live (by lia) (by lia)
   have j1:=u2.rlen
   have j2:=staysD_le (room:=q.room) (k:=key) (rs:=lvD (t+q.K.step) rs)
   refine T_setdef_put S (by lia) (by decide) (by lia) H1 (a3.trans od3) hk u.due (by lia) (by lia) (by lia) lvD_live (by lia) (by lia) (by lia) hp u2.at fun a dx etk tk' rows'' ring'' s' hlay S=>?_
   obtain ⟨n,xs3,n1,n2,n3,rfl,u3⟩:=u2.lay hd (((hsub.trans List.filter_sublist).map _).nodup adr) hlay
   have j3:=staysD_room (k:=key) (by lia) hrm2
   refine .inl ⟨_,_,rfl,tg_out S,fun s' S=>?_⟩
   refine h4 hno (by lia) _ s' ⟨TX.g (putD_map hps n1 n2 n3) u3 ?_ ?_⟩ (tg_fin S)
   ·rw [List.length_append,List.length_singleton]; lia
   ·intro d hd
    rcases List.mem_append.mp hd with hd | hd
    ·exact ivs d (lvD_sub d (staysD_sub d (dropD_sub d hd)))
    ·rw [List.mem_singleton] at hd; subst hd; exact ⟨vt,by rw [n3]; rfl⟩
end
end
section
section
variable {q:TCfg c}{env:Env}{fr:Addr}
theorem sp_lenT (P:Params):spOk (Mine.K P) 1155 "__len__" 957=true:=by kernel_rfl!
noncomputable def T_deed_popitem_P (ps:List PR) (X:List Cell) (t m:Int):Prop:=∀ (hstep:0≤q.K.step) (hsm:q.room≤100) (g:TG q ps t X) (ok:Ok A L) (S:St c (X++(q.K.G t m++L)) s) (h1:livingP (t+q.K.step) ps=[]→∀ X' e x2 s',Nonempty (TG q [] (t+q.K.step) X')→Tw c (X'++(q.K.G (t+q.K.step) (m+1)++L)) e (.type "KeyError") .none x2 s'→R (.error (.ref e)) s') (h2:∀ p rest,livingP (t+q.K.step) ps=p::rest→∀ X' x kt vt s',Nonempty (TG q rest (t+q.K.step) X')→St c ((x,TuP [.int p.k kt,.int p.v vt])::(X'++(q.K.G (t+q.K.step) (m+1)++L))) s'→R (.ok (.ret (.ref x))) s'),codeAny c.M A (.call (.ref 1145) ⟨[.ref q.ca],[]⟩) R s
theorem T_deed_popitem {ps:List PR}{X:List Cell}{t m:Int}:@T_deed_popitem_P c L s A R q ps X t m:=by
 revert c L s A R q ps X t m
 walk_at "e5"; intro c L s A R
 walk_at "e5"; intro q ps X t m
 intro hstep hsm g ok S h1 h2
 obtain ⟨od1,od2,od3,od4⟩:=ok
 have S:=g.st S
 obtain ⟨rs,xs,rows,data,m1,mtk,u,hroom,ivs,hps,hX⟩:=g
 dsimp only at S
 have u1:=u.exp (t1:=t+q.K.step) (by lia)
 have l1:=u.rlen
 have l2:=u.dlen
 have l3:=u.xlen
 have l4:=exD_le (t:=t+q.K.step) (rs:=xs)
 have l5:=lvD_le (t:=t+q.K.step) (rs:=rs)
 have k1:=u1.rlen
 have k2:=u1.dlen
 have k3:=u1.m
 have e1:=livingD_map (t1:=t+q.K.step) hps
 have hrows:=u1.rows
 have hdue:=u.due (t1:=t+q.K.step)
 rw [ring_split2 (t1:=t+q.K.step) u.srt] at S
 generalize hlv:lvD (t+q.K.step) rs=lv at *
 cases lv with
 | nil =>
  rw [List.map_nil] at hrows e1
  refine T_popitem_empty S (by lia) od4 od3 (Int.le_refl 0) mv0 hdue (by lia) (by lia) (by lia) lvD_live hrows fun tk' e x2 s' X=>?_
  rw [hrows] at u1
  exact h1 e1 _ e x2 s' ⟨TX.g (rs:=[]) rfl u1 (by simp; lia) (fun _ h=>nomatch h)⟩ (TX.backX X)
 | cons d rest =>
  rw [List.map_cons] at hrows e1
  have hd:d∈lvD (t+q.K.step) rs:=by rw [hlv]; exact .head _
  have hdl:t+q.K.step<d.e:=by simpa using (List.mem_filter.mp hd).2
  obtain ⟨vt,hv⟩:=ivs d (lvD_sub d hd)
  have hD:=u1.atD (.head _)
  have hlive:=lvD_live (t1:=t+q.K.step) (xs:=xs)
  obtain ⟨us,vs,hxs⟩:=List.append_of_mem (u1.px.symm.subset (.head _))
  rw [hxs] at S u1 hlive
  rw [List.map_append,List.map_cons] at S hlive
  refine T_popitem (nd:=d.nd) S (by lia) (Int.le_refl 0) mv0 hdue (by lia) (by lia) (by lia) hlive hrows hD rfl hdl (by lia) (by lia) fun x ktk tk' s' S=>?_
  rw [hv] at S
  have ud:=u1.del
  rw [show dropD d.key (d::rest)=rest from dropD_at (us:=[]) u1.nd] at ud
  rw [List.length_cons] at l5
  have S:=S.weak (a:=q.td) (P':=Tm0 q.K.clk) (by walk_at "r") fun o z=>Tms.zero.mp z
  rw [← List.map_append] at S
  exact h2 (toD d) (rest.map toD) e1 _ x ktk vt s' ⟨TX.g rfl ud (by lia) (ivs.sub fun r hr=>lvD_sub r (by rw [hlv]; exact .tail _ hr))⟩ S
theorem told_ts {xs:List Dr} (hi:IntsD xs) {told:List (Addr × Value × Value)} (h:told.map (·.2)=xs.map (fun x=>(.int x.key x.ktk,x.val))):∃ ts:List (Addr × Int × Tok × Int × Tok),told=ts.map (fun x=>(x.1,.int x.2.1 x.2.2.1,.int x.2.2.2.1 x.2.2.2.2))∧pairsOf ts=(xs.map toD).map kv:=by
 induction xs generalizing told with
 | nil =>
  rw [List.map_nil,List.map_eq_nil_iff] at h
  subst h
  exact ⟨[],rfl,rfl⟩
 | cons x xs ih =>
  rw [List.map_cons] at h
  obtain ⟨w,told',rfl,h1,h2⟩:=List.map_eq_cons_iff.mp h
  obtain ⟨ts,rfl,h3⟩:=ih (hi.sub fun _ hr=>.tail _ hr) h2
  obtain ⟨vt,hv⟩:=hi x (.head _)
  rw [hv] at h1
  refine ⟨(w.1,x.key,x.ktk,ival x.val,vt)::ts,?_,?_⟩
  ·rw [List.map_cons]
   congr 1
   exact Prod.ext rfl h1
  ·unfold pairsOf at h3 ⊢
   rw [List.map_cons,h3]
   rfl
noncomputable def T_deed_expire_P (ps:List PR) (X:List Cell) (t m:Int):Prop:=∀ (hstep:0≤q.K.step) (hsm:q.room≤100) (g:TG q ps t X) (ok:Ok A L) (S:St c (X++(q.K.G t m++L)) s) (h:∀ X' x ts s',(pairsOf ts).Perm ((deadP (t+q.K.step) ps).map kv)→Nonempty (TG q (livingP (t+q.K.step) ps) (t+q.K.step) X')→St c ((x,LiP (pairRefs ts))::(pairCells ts++(X'++(q.K.G (t+q.K.step) (m+1)++L)))) s'→R (.ok (.ret (.ref x))) s'),codeAny c.M A (.call (.ref 1138) ⟨[.ref q.ca],[]⟩) R s
theorem T_deed_expire {ps:List PR}{X:List Cell}{t m:Int}:@T_deed_expire_P c L s A R q ps X t m:=by
 revert c L s A R q ps X t m
 walk_at "e5"; intro c L s A R
 walk_at "e5"; intro q ps X t m
 intro hstep hsm g ok S h
 obtain ⟨od1,od2,od3,od4⟩:=ok
 have S:=g.st S
 obtain ⟨rs,xs,rows,data,m1,mtk,u,hroom,ivs,hps,hX⟩:=g
 dsimp only at S
 have S:=S.weak (a:=q.td) (P':=Tm0 q.K.clk) (by walk_at "r") fun o z=>Tms.zero.mp z
 have u1:=u.exp (t1:=t+q.K.step) (by lia)
 have l1:=u.rlen
 have l2:=u.dlen
 have l3:=u.xlen
 have l4:=exD_le (t:=t+q.K.step) (rs:=xs)
 have l5:=lvD_le (t:=t+q.K.step) (rs:=rs)
 rw [ring_split2 (t1:=t+q.K.step) u.srt] at S
 refine T_expire0 S (by lia) u.due (by lia) (by lia) (by lia) lvD_live fun x tk' told s' ht S=>?_
 obtain ⟨ts,rfl,hp⟩:=told_ts (fun d hd=>ivs d (u.px.subset (List.mem_filter.mp hd).1)) ht
 have hpp:(pairsOf ts).Perm ((deadP (t+q.K.step) ps).map kv):=by
  rw [hp,deadD_map hps]
  exact ((u.px.filter _).map _).map _
 refine h (TX q (outs rows (exD (t+q.K.step) xs)) (outs data (exD (t+q.K.step) xs)) ((lvD (t+q.K.step) xs).map Dr.nd) (m1-(exD (t+q.K.step) xs).length) tk') x ts s' hpp ⟨TX.g (livingD_map hps) u1 (by lia) (ivs.sub lvD_sub)⟩ ?_
 simp only [List.map_map] at S
 exact S
noncomputable def T_deed_size_P (ps:List PR) (X:List Cell) (t m:Int):Prop:=∀ (hstep:0≤q.K.step) (hsm:q.room≤100) (g:TG q ps t X) (ok:Ok A L) (S:St c (X++(q.K.G t m++L)) s) (h:∀ X' tk s',Nonempty (TG q (livingP (t+q.K.step) ps) (t+q.K.step) X')→St c (X'++(q.K.G (t+q.K.step) (m+1)++L)) s'→R (.ok (.ret (.int ((livingP (t+q.K.step) ps).length:Nat) tk))) s'),codeAny c.M A (.call (.ref 957) ⟨[.ref q.ca],[]⟩) R s
set_option maxHeartbeats 1000000 in
theorem T_deed_size {ps:List PR}{X:List Cell}{t m:Int}:@T_deed_size_P c L s A R q ps X t m:=by
 revert c L s A R q ps X t m
 walk_at "e5"; intro c L s A R
 walk_at "e5"; intro q ps X t m
 intro hstep hsm g ok S h
 obtain ⟨od1,od2,od3,od4⟩:=ok
 have S:=g.st S
 obtain ⟨rs,xs,rows,data,m1,mtk,u,hroom,ivs,hps,hX⟩:=g
 dsimp only at S
 have u1:=u.exp (t1:=t+q.K.step) (by lia)
 have l1:=u.rlen
 have l2:=u.dlen
 have l3:=u.xlen
 have l4:=exD_le (t:=t+q.K.step) (rs:=xs)
 have l5:=lvD_le (t:=t+q.K.step) (rs:=rs)
 have k2:=u1.dlen
 rw [ring_split2 (t1:=t+q.K.step) u.srt] at S
 refine f_call fn957 [(1,.ref q.ca),(42,.ref 805)] S (by lia) (by rfl) (by kernel_rfl!) (by kernel_rfl!) ?_
 intro fr s S
 have F:=fn957
 refine x_cons ?_
 refine x_wN ?_
 walk_at "g"
 rename_i S
 refine ⟨_,_,_,_,rfl,S,by exact ixm 5 rfl,by exact ixm 6 rfl,?_⟩
 refine timer_enter (St.pick2G S (by walk_at "k") (by walk_at "k") (by walk_at "K")) (by rw [depth_deeper]; lia) mv0 fun ttk s S=>?_
 walk_at "g"
 refine g_meth ‹_› (by exact ixn 2 1 rfl rfl) (by walk_at "c") (by exact ixn 2 2 rfl rfl) (by walk_at "i") (by rfl) (by rfl) ?_
 refine To.K keep1138 ?_
 walk_at "g"
 have S:=St.perm (L':=(q.ca,InstP 1155 q.cd)::(q.cd,Dm (q.D (.int m1 mtk)))::(q.dd,DI c data)::(q.lk,DI c rows)::(Ring q.root ((exD (t+q.K.step) xs).map Dr.nd++(lvD (t+q.K.step) xs).map Dr.nd)++((q.tm,InstP 929 q.td)::(q.td,Tmr q.K.clk (0+1) (t+q.K.step))::(q.K.G (t+q.K.step) (m+1)++((fr,Nm [(35,.int (t+q.K.step) ttk),(42,.ref 805),(1,.ref q.ca)])::L))))) ‹_› (by walk_at "d")
 refine ⟨⟨_,S⟩,T_expire (q:=q) S (by rw [depth_deeper]; lia) u.due (by lia) (by lia) (by lia) lvD_live ?_⟩
 intro xl tk told s e1 S
 have S:=S.drop.dropG
 walk_at "g"
 refine To.K keep805 ?_
 walk_at "g"
 refine ⟨⟨_,by assumption⟩,T_len (q:=q) (St.pick3 ‹_› (by walk_at "k") (by walk_at "k") (by walk_at "k")) (by rw [depth_deeper]; lia) (by lia) ?_⟩
 intro tk2 s S
 walk_at "g"
 refine timer_exit (St.pick2 S (by walk_at "k") (by walk_at "k")) (by rw [depth_deeper]; lia) fun s S=>?_
 walk_at "g"
 have S:=S.dropAt (p:=(fr,_)) (by walk_at "k")
 have e2:(livingP (t+q.K.step) ps).length=(outs data (exD (t+q.K.step) xs)).length:=by rw [livingD_map hps,List.length_map,k2]
 rw [e2] at h
 exact h _ tk2 _ ⟨TX.g (livingD_map hps) u1 (by lia) (ivs.sub lvD_sub)⟩ (TX.back (S.perm (by exact ixd [2,2,2,2] rfl)))
theorem TG.instOf {ps:List PR}{t:Int}{X:List Cell} (g:TG q ps t X):(q.ca,InstP 1155 q.cd)∈X∧(q.cd,Dm (q.D (.int g.m g.mtk)))∈X :=
 have e:=g.hX
 ⟨Eq.mpr (congrArg (fun Y=>(q.ca,InstP 1155 q.cd)∈Y) e) (.head _),Eq.mpr (congrArg (fun Y=>(q.cd,Dm (q.D (.int g.m g.mtk)))∈Y) e) (.tail _ (.head _))⟩
theorem TG.meth {ps:List PR}{t:Int}{X:List Cell}{k:Nat}{nm:Str}{f:Addr}{pl:Sem Bool}{Q:Value × List Value→Shared→Prop} (g:TG q ps t X) (S:St c L s) (hs:∀ p∈X,p∈L) (hn:N[k]? = some nm) (hk:at1155.lookup k=some (.meth f)) (hv:(q.D (.int g.m g.mtk)).lookup k=none)
  (h:Q (.ref f,[.ref q.ca]) s):wpAny c.M A (getMethod (.ref q.ca) nm pl) Q E s :=
 g_meth S (hs _ g.instOf.1) cls1155 (hs _ g.instOf.2) hn hk hv h
noncomputable def TMem (q:TCfg c) (hlast:0<q.last) (hstep:0≤q.K.step) (hsm:q.room≤100):Mem c q.K where
 ca:=q.ca
 C:=1155
 cd:=q.cd
 room:=q.room
 last:=q.last
 G:=fun ps t _ X=>Nonempty (TG q ps t X)
 fset:=1100
 fpi:=1145
 fex:=1138
 hold:=[]
 holds:=fun _ _ hp=>nomatch hp
 inst:=fun ⟨g⟩=>⟨g.instOf.1,_,g.instOf.2⟩
 nodup:=fun ⟨g⟩=>by
  have:=g.u.nd; have e:=g.hps; have e2:(g.rs.map toD).map PR.k=g.rs.map Dr.key:=by rw [List.map_map]; rfl
  rw [← e2,← e] at this; exact this
 len:=fun ⟨g⟩=>by have:=g.hroom; rw [← List.length_map (f:=toD),← g.hps] at this; exact this
 dry:=fun ⟨_⟩ hl=>absurd hlast (by lia)
 mono:=fun g _=>g
 sp_set:=sp_set
 sp_len:=sp_lenT
 keep_pi:=keep1145
 keep_ex:=keep1138
 m_pop:=fun ⟨g⟩ S hs h=>g.meth S hs ix22 rfl rfl h
 m_get:=fun ⟨g⟩ S hs h=>g.meth S hs ix27 rfl rfl h
 m_setdef:=fun ⟨g⟩ S hs h=>g.meth S hs ix29 rfl rfl h
 m_popitem:=fun ⟨g⟩ S hs h=>g.meth S hs ix20 rfl rfl h
 m_expire:=fun ⟨g⟩ S hs h=>g.meth S hs ix43 rfl rfl h
 set:=fun ⟨g⟩ _ ok S _ h2 h3=>T_deed_set hlast hstep hsm g ok S (h2 hlast) (h3 hlast)
 pop:=fun ⟨g⟩ _ ok S h1 h2=>T_deed_pop hstep hsm g ok S h1 h2
 get:=fun ⟨g⟩ _ ok S h1 h2=>T_deed_get hstep hsm g ok S h1 h2
 setdef:=fun ⟨g⟩ _ ok S h1 _ h3 h4=>T_deed_setdef hlast hstep hsm g ok S h1 (fun n=>h3 n hlast) (fun n=>h4 n hlast)
 popitem:=fun ⟨g⟩ _ ok S h1 h2=>T_deed_popitem hstep hsm g ok S h1 h2
 expire:=fun ⟨g⟩ _ ok S h=>T_deed_expire hstep hsm g ok S h
 size:=fun ⟨g⟩ _ ok S h=>T_deed_size hstep hsm g ok S h
end
end
section
theorem neMem {c:Cx}{K:Ck c}:Nonempty (Mem c K):=⟨{
 ca:=0,C:=1155,cd:=0,room:=0,last:=0,G:=fun _ _ _ _=>False,fset:=1100,fpi:=1145,fex:=1138,hold:=[]
 holds:=fun h=>h.elim,inst:=fun h=>h.elim,nodup:=fun h=>h.elim,len:=fun h=>h.elim,dry:=fun h=>h.elim,mono:=fun h=>h.elim
 sp_set:=sp_set,sp_len:=sp_lenT,keep_pi:=keep1145,keep_ex:=keep1138
 m_pop:=fun h=>h.elim,m_get:=fun h=>h.elim,m_setdef:=fun h=>h.elim,m_popitem:=fun h=>h.elim,m_expire:=fun h=>h.elim
 set:=fun h=>h.elim,pop:=fun h=>h.elim,get:=fun h=>h.elim,setdef:=fun h=>h.elim,popitem:=fun h=>h.elim,expire:=fun h=>h.elim,size:=fun h=>h.elim }⟩
end
section
noncomputable def kgo {α:Type} (n:Nat) (lt:Nat→Nat→Bool):KasT α→Option α
 | .ret a=>some a
 | .ask i j k=>if i<n∧j<n∧i≠j then kgo n lt (k (lt i j)) else none
theorem kgo_congr {α:Type}{n:Nat}{lt lt':Nat→Nat→Bool} (h:∀ i j,i<n→j<n→lt i j=lt' i j):∀ t:KasT α,kgo n lt t=kgo n lt' t
 | .ret _=>rfl
 | .ask i j k=>by
  unfold kgo
  by_cases hb:i<n∧j<n∧i≠j
  ·rw [if_pos hb,if_pos hb,h i j hb.1 hb.2.1]; exact kgo_congr h _
  ·rw [if_neg hb,if_neg hb]
theorem kgo_wp {α:Type}{n:Nat}{lt:Nat→Nat→Bool}{cmp:Nat→Nat→(Bool→Shared→Prop)→Shared→Prop}{s:Shared}{Q:α→Shared→Prop}
  (hc:∀ i j C,i<n→j<n→i≠j→C (lt i j) s→cmp i j C s):∀ (t:KasT α) (a:α),kgo n lt t=some a→Q a s→t.kasWp cmp Q s
 | .ret b,a,h,hq=>by
  have:b=a:=Option.some.inj h
  subst this
  exact hq
 | .ask i j k,a,h,hq=>by
  unfold kgo at h
  by_cases hb:i<n∧j<n∧i≠j
  ·rw [if_pos hb] at h
   exact hc i j _ hb.1 hb.2.1 hb.2.2 (kgo_wp hc _ a h hq)
  ·rw [if_neg hb] at h; cases h
noncomputable def kchk (n:Nat) (r:List Nat):Bool:=match kgo n (fun i j=>decide (r.getD i 0<r.getD j 0)) (kas_sort n) with
 | some p=>decide ((p.toList.map fun i=>r.getD i 0).Pairwise (· < ·)) && decide (p.toList.Perm (List.range n))
 | none=>false
noncomputable def lists (m:Nat):Nat→List (List Nat)
 | 0=>[[]]
 | n+1=>(List.range m).flatMap fun x=>(lists m n).map (x::·)
theorem mem_lists {m:Nat}:∀ (l:List Nat),(∀ x∈l,x<m)→l∈lists m l.length
 | [],_=>.head _
 | x::l,h=>List.mem_flatMap.mpr ⟨x,List.mem_range.mpr (h x (.head _)),List.mem_map.mpr ⟨l,mem_lists l fun y hy=>h y (.tail _ hy),rfl⟩⟩
theorem kchk2:(lists 2 2).all (fun r=>!decide r.Nodup || kchk 2 r)=true:=by decide +kernel
theorem kchk3:(lists 3 3).all (fun r=>!decide r.Nodup || kchk 3 r)=true:=by decide +kernel
theorem kchk4:(lists 4 4).all (fun r=>!decide r.Nodup || kchk 4 r)=true:=by decide +kernel
noncomputable def rank (ks:List Int) (x:Int):Nat:=ks.countP fun y=>decide (y<x)
theorem rank_lt {ks:List Int}{x y:Int} (hx:x∈ks):rank ks x<rank ks y↔x<y:=by
 constructor
 ·intro h
  rcases Int.lt_or_le x y with h1 | h1
  ·exact h1
  ·refine absurd h (Nat.not_lt.mpr ?_)
   exact List.countP_mono_left fun z _ hz=>by simp only [decide_eq_true_eq] at hz ⊢; lia
 ·intro h
  unfold rank
  obtain ⟨us,vs,rfl⟩:=List.append_of_mem hx
  rw [List.countP_append,List.countP_append,List.countP_cons,List.countP_cons]
  have h1:us.countP (fun z=>decide (z<x))≤us.countP (fun z=>decide (z<y)):=List.countP_mono_left fun z _ hz=>by simp only [decide_eq_true_eq] at hz ⊢; lia
  have h2:vs.countP (fun z=>decide (z<x))≤vs.countP (fun z=>decide (z<y)):=List.countP_mono_left fun z _ hz=>by simp only [decide_eq_true_eq] at hz ⊢; lia
  rw [if_neg (by simp),if_pos (by simpa using h)]
  lia
theorem rank_small {ks:List Int}{x:Int} (hx:x∈ks):rank ks x<ks.length:=by
 unfold rank
 have:ks.countP (fun y=>decide (y<x))<ks.length:=by
  obtain ⟨us,vs,rfl⟩:=List.append_of_mem hx
  rw [List.countP_append,List.countP_cons,if_neg (by simp),List.length_append,List.length_cons]
  have h1:=List.countP_le_length (p:=fun y=>decide (y<x)) (l:=us)
  have h2:=List.countP_le_length (p:=fun y=>decide (y<x)) (l:=vs)
  lia
 exact this
theorem sort_ok {ks:List Int} (hn:ks.Nodup) (h2:2≤ks.length) (h4:ks.length≤4):∃ p:Array Nat,kgo ks.length (fun i j=>decide (ks.getD i 0<ks.getD j 0)) (kas_sort ks.length)=some p ∧
  (p.toList.map fun i=>ks.getD i 0).Pairwise (· < ·)∧p.toList.Perm (List.range ks.length):=by
 have hr:(ks.map (rank ks)).Nodup:=by
  refine List.pairwise_map.mpr (List.Pairwise.imp_of_mem (fun {x y} hx hy hne=>?_) hn)
  intro e
  rcases Int.lt_trichotomy x y with h | h | h
  ·have:=(rank_lt hx).mpr h; lia
  ·exact hne h
  ·have:=(rank_lt hy).mpr h; lia
 have hl:∀ r∈ks.map (rank ks),r<ks.length:=fun r hr=>by
  obtain ⟨x,hx,rfl⟩:=List.mem_map.mp hr
  exact rank_small hx
 have hm:=mem_lists _ hl
 rw [List.length_map] at hm
 have hc:kchk ks.length (ks.map (rank ks))=true:=by
  have all:(lists ks.length ks.length).all (fun r=>!decide r.Nodup || kchk ks.length r)=true:=by
   have:ks.length=2∨ks.length=3∨ks.length=4:=by lia
   rcases this with e | e | e <;> rw [e]
   ·exact kchk2
   ·exact kchk3
   ·exact kchk4
  have:=List.all_eq_true.mp all _ hm
  simpa [hr] using this
 have at_:∀ i,i<ks.length→(ks.map (rank ks)).getD i 0=rank ks (ks.getD i 0)∧ks.getD i 0∈ks:=fun i hi=>by
  simp [List.getD,hi]
 have cg:kgo ks.length (fun i j=>decide ((ks.map (rank ks)).getD i 0<(ks.map (rank ks)).getD j 0)) (kas_sort ks.length)=kgo ks.length (fun i j=>decide (ks.getD i 0<ks.getD j 0)) (kas_sort ks.length):=by
  refine kgo_congr (fun i j hi hj=>?_) _
  rw [(at_ i hi).1,(at_ j hj).1]
  congr 1
  exact propext (rank_lt (at_ i hi).2)
 unfold kchk at hc
 rw [cg] at hc
 generalize kgo ks.length (fun i j=>decide (ks.getD i 0<ks.getD j 0)) (kas_sort ks.length)=o at hc
 cases o with
 | none=>cases hc
 | some p =>
  simp only [Bool.and_eq_true,decide_eq_true_eq] at hc
  refine ⟨p,rfl,?_,hc.2⟩
  have h1:=hc.1
  rw [List.pairwise_map] at h1 ⊢
  refine h1.imp_of_mem fun {a b} ha hb hlt=>?_
  have ha':=List.mem_range.mp (hc.2.subset ha)
  have hb':=List.mem_range.mp (hc.2.subset hb)
  rw [(at_ a ha').1,(at_ b hb').1] at hlt
  exact (rank_lt (at_ a ha').2).mp hlt
end
section
noncomputable abbrev Tp:=Addr × Int × Tok × Int × Tok
section
variable {env:Env}{fr:Addr}{l:List (Nat × Value)}
theorem pair_at {ts:List Tp}{i:Nat} (h:i<ts.length):(pairRefs ts).getD i .none=.ref (ts[i]).1∧(ts.map (·.2.1)).getD i 0=(ts[i]).2.1:=by
 unfold pairRefs
 simp [List.getD,h]
theorem pair_mem {ts:List Tp}{x:Tp} (h:x∈ts):(x.1,TuP [.int x.2.1 x.2.2.1,.int x.2.2.2.1 x.2.2.2.2])∈pairCells ts:=List.mem_map.mpr ⟨x,h,rfl⟩
theorem tups_of {L0:List Cell}{s':Shared} (S:St c L0 s'):∀ ts:List Tp,(∀ p∈pairCells ts,p∈L0)→KatTups s'.heap (pairRefs ts) (ts.map fun x=>.int x.2.1 x.2.2.1)
 | [],_=>.nil
 | x::ts,h=>by
  obtain ⟨o,e,q⟩:=S.get (h _ (pair_mem (.head _)))
  subst q
  exact .cons e rfl rfl rfl (tups_of S ts fun p hp=>h p (.tail _ hp))
noncomputable def pick (ts:List Tp) (p:List Nat):List Tp:=p.map fun i=>ts.getD i (0,0,default,0,default)
theorem pick_perm {ts:List Tp}{p:List Nat} (h:p.Perm (List.range ts.length)):(pick ts p).Perm ts:=by
 have h1:=h.map fun i=>ts.getD i ((0,0,default,0,default):Tp)
 refine h1.trans (.of_eq ?_)
 refine List.ext_getElem (by simp) fun i h2 h3=>?_
 simp [List.getD,h3]
theorem pick_refs {ts:List Tp}{p:List Nat} (h:∀ i∈p,i<ts.length):(p.map fun i=>(pairRefs ts).getD i .none)=pairRefs (pick ts p):=by
 unfold pick
 rw [show pairRefs (p.map fun i=>ts.getD i (0,0,default,0,default))=p.map fun i=>.ref (ts.getD i ((0,0,default,0,default):Tp)).1 from by unfold pairRefs; rw [List.map_map]; rfl]
 refine List.map_congr_left fun i hi=>?_
 have:=h i hi
 rw [(pair_at this).1]
 simp [List.getD,this]
theorem pick_keys {ts:List Tp}{p:List Nat} (h:∀ i∈p,i<ts.length):(pick ts p).map (·.2.1)=p.map fun i=>(ts.map (·.2.1)).getD i 0:=by
 unfold pick
 rw [List.map_map]
 refine List.map_congr_left fun i hi=>?_
 have:=h i hi
 rw [(pair_at this).2]
 simp [List.getD,this]
theorem sorted1:∀ {ts:List Tp},ts.length<2→(ts.map (·.2.1)).Pairwise (· < ·)
 | [],_=>.nil
 | [x],_=>List.pairwise_singleton _ _
 | _::_::_,h=>by simp at h; lia
theorem St.drop234 {p a b d:Cell} (S:St c (p::a::b::d::L) s):St c (p::L) s :=
 (S.perm (L':=a::b::d::p::L) (List.perm_middle (l₁:=[a,b,d]))).drop.drop.drop
noncomputable def l_sorted_P (a:Addr) (ts:List Tp) (Q:Value→Shared→Prop):Prop:=∀ (S:St c ((fr,Nm l)::L) s) (h1:(a,LiP (pairRefs ts))∈L) (hm:∀ p∈pairCells ts,p∈L) (hn:(ts.map (·.2.1)).Nodup) (h4:ts.length≤4) (h:∀ D ts' s',ts'.Perm ts→(ts'.map (·.2.1)).Pairwise (· < ·)→St c ((D,LiP (pairRefs ts'))::(fr,Nm l)::L) s'→Q (.ref D) s'),wpAny c.M A (call (.builtin "sorted") [.ref a]) Q E s
set_option maxHeartbeats 1000000 in
theorem l_sorted {a:Addr}{ts:List Tp}{Q:Value→Shared→Prop}:@l_sorted_P c L s A E fr l a ts Q:=by
 revert c L s A E fr l a ts Q
 walk_at "e9"; intro c L s A E fr l a ts
 walk_at "e1"; intro Q
 intro S h1 hm hn h4 h
 have lenr:(pairRefs ts).length=ts.length:=List.length_map ..
 by_cases h2:ts.length<2
 ·have hsz:(pairRefs ts).length≤sizeLine:=by rw [sizeLine_eq]; lia
  refine call_function_entry kind_sorted plain_sorted entry_sorted (args_sorted1 _) ?_
  unfold Builtin.«sorted»
  refine wpAny_bind (m:=checkCount "sorted" 1 1 _) (wpAny_pure ?_)
  refine wpAny_bind (collect_list (S.plist (.tail _ h1)).isList ?_ hsz)
  refine wpAny_bind (wpAny_newList ?_ hsz)
  have S1:=S.push (seqObj "list" #[] 0) rfl (P:=fun _=>True) trivial (d:=s.drawn) (t:=s.toks) (os:=s.os)
  obtain ⟨o0,e0,_⟩:=S1.get (.head _)
  have S2:St c ((s.heap.objs.size,fun _=>True)::(fr,Nm l)::L) { s with heap:=(s.heap.push (seqObj "list" #[] 0)).update s.heap.objs.size (Obj.mapSeq (·++(pairRefs ts).toArray)) } :=
   S1.change .here (Heap.SameBut.update ..) ⟨_,get?_update_seq (Heap.get?_push_size _ rfl) _,trivial⟩ rfl
  have S3:=S2.push (seqObj "list" (pairRefs ts).toArray 0) rfl (P:=LiP (pairRefs ts)) ⟨0,rfl⟩ (d:=s.drawn) (t:=s.toks) (os:=s.os)
  show wpAny _ _ _ _ _ { s with heap:=((s.heap.push (seqObj "list" #[] 0)).update s.heap.objs.size (Obj.mapSeq (·++(pairRefs ts).toArray))).push (seqObj "list" (pairRefs ts).toArray 0) }
  dsimp only at S3
  generalize hD:((s.heap.push (seqObj "list" #[] 0)).update s.heap.objs.size (Obj.mapSeq (·++(pairRefs ts).toArray))).objs.size=D at S3 ⊢
  generalize ((s.heap.push (seqObj "list" #[] 0)).update s.heap.objs.size (Obj.mapSeq (·++(pairRefs ts).toArray))).push (seqObj "list" (pairRefs ts).toArray 0)=hp at S3 ⊢
  obtain ⟨_,eD,n0,rfl⟩:=S3.get (.head _)
  dsimp only at eD
  refine wpAny_bind (wpAny_holding (wpAny_call_entry slot_list_sort ⟨_,eD,rfl⟩ entry_list_sort ?_ (args_list_sort _)))
  rw [list_sort_plain]
  refine wpAny_bind (listItems_at eD rfl ?_)
  refine wpAny_bind (listUpdate_at eD rfl ?_ (by rw [List.size_toArray]; exact hsz) (Nat.zero_le _))
  obtain ⟨e1,ho1⟩ : ∃ e1,(hp.update D (Obj.mapSeq fun _=>(#[] : Array Value))).get? D=some (seqObj "list" #[] e1):=⟨_,get?_update_seq eD fun _=>#[]⟩
  have S4:St c ((D,LiP [])::(s.heap.objs.size,fun _=>True)::(fr,Nm l)::L) { s with heap:=hp.update D (Obj.mapSeq fun _=>(#[] : Array Value)) } :=
   S3.change .here (Heap.SameBut.update ..) ⟨_,ho1,e1,rfl⟩ rfl
  refine wpAny_bind (seqEpoch_at ho1 rfl ?_)
  refine wpAny_bind (wpAny_newTuple ?_ hsz)
  refine wpAny_bind (wpAny_newList ?_ (Nat.zero_le _))
  refine wpAny_holding ?_
  have hn2:(pairRefs ts).toArray.size<2:=by rw [List.size_toArray]; lia
  dsimp only
  rw [if_pos hn2,if_pos hn2]
  have S5:=S4.push (seqObj "tuple" (pairRefs ts).toArray 0) rfl (P:=fun _=>True) trivial (d:=s.drawn) (t:=s.toks) (os:=s.os)
  have S6:=S5.push (seqObj "list" #[] 0) rfl (P:=fun _=>True) trivial (d:=s.drawn) (t:=s.toks) (os:=s.os)
  have S7:=S6.pick (p:=(D,LiP [])) (.there (.there .here))
  have e7:(((hp.update D (Obj.mapSeq fun _=>(#[] : Array Value))).push (seqObj "tuple" (pairRefs ts).toArray 0)).push (seqObj "list" #[] 0)).get? D=some (seqObj "list" #[] e1):=Heap.get?_push_of_some _ (Heap.get?_push_of_some _ ho1)
  refine wpAny_bind (wpAny_pure ?_)
  refine wpAny_bind (wpAny_pure ?_)
  have out:Array.map (fun x:Value × Value=>x.snd) (arrOf ((),SortSt.mk' general' ((pairRefs ts).toArray.zip (pairRefs ts).toArray) #[] 7 none).snd)=(pairRefs ts).toArray:=by
   show Array.map (fun x:Value × Value=>x.snd) ((pairRefs ts).toArray.zip (pairRefs ts).toArray)=_
   apply Array.toList_inj.mp
   rw [Array.toList_map,Array.toList_zip]
   show ((pairRefs ts).zip (pairRefs ts)).map Prod.snd=pairRefs ts
   rw [List.map_snd_zip (Nat.le_refl _)]
  refine wpAny_bind (seqEpoch_at e7 rfl ?_)
  refine wpAny_bind (listUpdate_at e7 rfl ?_ (Nat.zero_le _) (by rw [out,List.size_toArray]; exact Nat.le_succ_of_le hsz))
  rw [show failedOf ((),SortSt.mk' general' ((pairRefs ts).toArray.zip (pairRefs ts).toArray) #[] 7 none).snd=none from rfl]
  simp only [bne_self_eq_false,Bool.false_eq_true,if_false]
  refine wpAny_pure ⟨_,rfl,wpAny_pure ⟨_,rfl,?_⟩⟩
  have S8:=S7.change (P':=LiP (pairRefs ts)) (s':=⟨(((hp.update D (Obj.mapSeq fun _=>(#[] : Array Value))).push (seqObj "tuple" (pairRefs ts).toArray 0)).push (seqObj "list" #[] 0)).update D (Obj.mapSeq fun _=>Array.map (fun x:Value × Value=>x.snd) (arrOf ((),SortSt.mk' general' ((pairRefs ts).toArray.zip (pairRefs ts).toArray) #[] 7 none).snd)),s.gens,s.drawn,s.toks,s.os⟩) .here (Heap.SameBut.update ..) ⟨_,get?_update_seq e7 _,by rw [out]; exact ⟨_,rfl⟩⟩ rfl
  exact h D ts _ (.refl _) (sorted1 h2) S8.drop234
 ·obtain ⟨m,ns,hm',F,NN,ft,nd⟩:=S.news
  obtain ⟨o1,ho1,_⟩:=ft.cell h1
  refine kat_sorted F NN (S.plist (.tail _ h1)).isList (by lia) (by lia) fun D e1 h' F' N' hlt=>?_
  have nd1:(((D,seqObj "list" #[] e1)::ns).map (·.1)).Nodup:=by
   rw [List.map_cons,List.nodup_cons]
   refine ⟨fun z=>?_,nd⟩
   obtain ⟨q,hq,e⟩:=List.mem_map.mp z
   exact absurd (show D<D from (show q.1=D from e) ▸ hlt q hq) (Nat.lt_irrefl _)
  have low:∀ {P:Obj→Prop},∀ p∈(D,P)::L,c.h₀.objs.size≤p.1:=fun p hp=>by
   rcases List.mem_cons.mp hp with rfl | hp
   ·have t1:a<D:=hlt _ ho1
    have t2:c.h₀.objs.size≤a:=S.low _ (.tail _ h1)
    exact Nat.le_of_lt (Nat.lt_of_le_of_lt t2 t1)
   ·exact S.low _ (.tail _ hp)
  have S1:St c ((fr,Nm l)::(D,fun o=>o=seqObj "list" #[] e1)::L) { s with heap:=h' }:=S.back hm' F' N' (.cons rfl ft) nd1 low rfl
  refine kat_kind (T:=.type "int") (tups_of S1 ts fun p hp=>.tail _ (.tail _ (hm p hp))) (by rw [List.length_map]; lia) (fun v hv=>by
   obtain ⟨x,_,rfl⟩:=List.mem_map.mp hv
   exact Looks.of_pure rfl) (by rfl) ?_
  obtain ⟨p,hp,srt,perm⟩:=sort_ok hn (by rw [List.length_map]; lia) (by rw [List.length_map]; exact h4)
  rw [List.length_map] at hp perm
  rw [lenr]
  have small:∀ i∈p.toList,i<ts.length:=fun i hi=>List.mem_range.mp (perm.subset hi)
  refine kgo_wp (fun i j C hi hj hne hC=>?_) _ p hp ?_
  ·show wpAny c.M _ (keyLt' _ ((pairRefs ts).getD i .none) ((pairRefs ts).getD j .none)) C _ _
   rw [(pair_at hi).1,(pair_at hj).1]
   obtain ⟨oi,ei,rfl⟩:=S1.get (.tail _ (.tail _ (hm _ (pair_mem (List.getElem_mem hi)))))
   obtain ⟨oj,ej,rfl⟩:=S1.get (.tail _ (.tail _ (hm _ (pair_mem (List.getElem_mem hj)))))
   refine kat_lt ei rfl ej rfl (kat_cons (wpAny_eqBool_int ?_))
   have hk:(ts[i]).2.1≠(ts[j]).2.1:=fun z=>by
    have h1:i<(ts.map (·.2.1)).length:=by rw [List.length_map]; exact hi
    have h2:j<(ts.map (·.2.1)).length:=by rw [List.length_map]; exact hj
    have pw:=List.pairwise_iff_getElem.mp hn
    rcases Nat.lt_or_gt_of_ne hne with h3 | h3
    ·exact pw i j h1 h2 h3 (by simpa using z)
    ·exact pw j i h2 h1 h3 (by simpa using z.symm)
   rw [show ((ts[i]).2.1 == (ts[j]).2.1)=false by simpa using hk]
   refine kat_no (oneLt_int ?_)
   rw [(pair_at hi).2,(pair_at hj).2] at hC
   exact hC
  ·rw [pick_refs small]
   refine KasFin.intro F' N' (.head fun q hq=>Nat.ne_of_lt (hlt q hq)) fun h2 c2 F2 N2=>?_
   have S2:St c ((fr,Nm l)::(D,LiP (pairRefs (pick ts p.toList)))::L) { s with heap:=h2 }:=S.back hm' F2 N2 (.cons ⟨c2,rfl⟩ ft) (by rw [List.map_cons] at nd1 ⊢; exact nd1) low rfl
   exact h D (pick ts p.toList) _ (pick_perm perm) (by rw [pick_keys small]; exact srt) (S2.pick (.there .here))
end
end
section
inductive AnsV
 | int (v:Int)
 | text (x:Str)
 | pairs (l:List (Int × Int))
noncomputable def AnsC (a:Addr):AnsV→List Cell→Prop
 | .int v,X=>∃ t,X=[(a,LiP [.int v t])]
 | .text x,X=>∃ t,X=[(a,LiP [.str x t])]
 | .pairs l,X=>∃ ts,pairsOf ts=l∧X=(a,LiP (pairRefs ts))::pairCells ts
section
variable {c:Cx}{L L':List Cell}{s:Shared}{A:Around}{E:Value→Shared→Prop}{a b:Addr}
theorem all_true (n:Nat):(List.range n).all (fun _=>true)=true:=List.all_eq_true.mpr fun _ _=>rfl
theorem St.tup (S:St c L s) {its:List Value} (h:(a,TuP its)∈L):s.heap.IsTuple a its.toArray:=by
 obtain ⟨o,e,rfl⟩:=S.get h
 exact ⟨_,e,rfl,_,rfl⟩
theorem pairs_len:∀ {ts us:List Tp},pairsOf ts=pairsOf us→ts.length=us.length:=fun h=>by
 have:=congrArg List.length h
 unfold pairsOf at this
 rwa [List.length_map,List.length_map] at this
theorem tup_eq (S:St c L s) {k v:Int}{kt vt kt' vt':Tok} (h1:(a,TuP [.int k kt,.int v vt])∈L) (h2:(b,TuP [.int k kt',.int v vt'])∈L) (hu:A.units+2<cLine):SeqAt.EqAt A.in1 s (.ref a) (.ref b) true:=by
 by_cases hab:a=b
 ·subst hab; exact SeqAt.EqAt.same _
 ·refine SeqAt.EqAt.of_refs hab ?_
  have:=SeqAt.RcAt.tuples (A:=A.in1) (e:=fun _=>true) (S.tup h1) (S.tup h2) (by show A.units+1<cLine; lia) (fun j q1 q2=>?_)
  ·rw [all_true] at this; exact this
  ·have q1:j<2:=q1
   have:j=0∨j=1:=by lia
   rcases this with rfl | rfl
   ·have:=SeqAt.EqAt.int_int (A:=A.in1.in1) (s:=s) k kt k kt'
    rw [beq_self_eq_true] at this; exact this
   ·have:=SeqAt.EqAt.int_int (A:=A.in1.in1) (s:=s) v vt v vt'
    rw [beq_self_eq_true] at this; exact this
theorem ans_items {u:AnsV}{X Y:List Cell} (S:St c L s) (hX:AnsC a u X) (hY:AnsC b u Y) (hx:∀ p∈X,p∈L) (hy:∀ p∈Y,p∈L) (hu:A.units+2<cLine) :
  ∃ xs ys:List Value,(a,LiP xs)∈L∧(b,LiP ys)∈L∧xs.toArray.size=ys.toArray.size∧∀ j (_:j<xs.toArray.size) (_:j<ys.toArray.size),SeqAt.EqAt A.in1 s xs.toArray[j] ys.toArray[j] true:=by
 cases u with
 | int v =>
  obtain ⟨t,rfl⟩:=hX
  obtain ⟨t',rfl⟩:=hY
  refine ⟨_,_,hx _ (.head _),hy _ (.head _),rfl,fun j q1 q2=>?_⟩
  have q1:j<1:=q1
  have:j=0:=by lia
  subst this
  have:=SeqAt.EqAt.int_int (A:=A.in1) (s:=s) v t v t'
  rw [beq_self_eq_true] at this; exact this
 | text x =>
  obtain ⟨t,rfl⟩:=hX
  obtain ⟨t',rfl⟩:=hY
  refine ⟨_,_,hx _ (.head _),hy _ (.head _),rfl,fun j q1 q2=>?_⟩
  have q1:j<1:=q1
  have:j=0:=by lia
  subst this
  have:=SeqAt.EqAt.str_str (A:=A.in1) (s:=s) x t x t'
  rw [beq_self_eq_true] at this; exact this
 | pairs l =>
  obtain ⟨ts,e1,rfl⟩:=hX
  obtain ⟨us,e2,rfl⟩:=hY
  have hl:=pairs_len (e1.trans e2.symm)
  refine ⟨_,_,hx _ (.head _),hy _ (.head _),by simp [pairRefs,hl],fun j q1 q2=>?_⟩
  have q1':j<ts.length:=by simpa [pairRefs] using q1
  have q2':j<us.length:=by simpa [pairRefs] using q2
  have r1:(pairRefs ts).toArray[j]=.ref (ts[j]).1:=by simp [pairRefs]
  have r2:(pairRefs us).toArray[j]=.ref (us[j]).1:=by simp [pairRefs]
  rw [r1,r2]
  have m1:=hx _ (.tail _ (pair_mem (List.getElem_mem q1')))
  have m2:=hy _ (.tail _ (pair_mem (List.getElem_mem q2')))
  have hk:((ts[j]).2.1,(ts[j]).2.2.2.1)=((us[j]).2.1,(us[j]).2.2.2.1):=by
   have h1:(pairsOf ts)[j]? = (pairsOf us)[j]?:=by rw [e1,e2]
   unfold pairsOf at h1
   rw [List.getElem?_map,List.getElem?_map,List.getElem?_eq_getElem q1',List.getElem?_eq_getElem q2'] at h1
   exact Option.some.inj h1
  have k1:(us[j]).2.1=(ts[j]).2.1:=(congrArg Prod.fst hk).symm
  have k2:(us[j]).2.2.2.1=(ts[j]).2.2.2.1:=(congrArg Prod.snd hk).symm
  rw [k1,k2] at m2
  exact tup_eq S m1 m2 hu
theorem a_ne {u:AnsV}{X Y:List Cell}{Q:Value→Shared→Prop} (S:St c L s) (hX:AnsC a u X) (hY:AnsC b u Y) (hx:∀ p∈X,p∈L) (hy:∀ p∈Y,p∈L) (hu:A.units+2<cLine)
  (h:Q (.bool false) s):wpAny c.M A (compareOp .NotEq (.ref a) (.ref b)) Q E s:=by
 obtain ⟨xs,ys,h1,h2,h3,h4⟩:=ans_items (A:=A) S hX hY hx hy hu
 refine SeqAt.RcNeAt.lists (e:=fun _=>true) (S.plist h1).isList (S.plist h2).isList h3 (by lia) h4 _ _ _ _ ?_
 rw [all_true]; exact h
theorem a_eq {u:AnsV}{X Y:List Cell}{Q:Value→Shared→Prop} (S:St c L s) (hX:AnsC a u X) (hY:AnsC b u Y) (hx:∀ p∈X,p∈L) (hy:∀ p∈Y,p∈L) (hu:A.units+2<cLine)
  (h:Q (.bool true) s):wpAny c.M A (compareOp .Eq (.ref a) (.ref b)) Q E s:=by
 obtain ⟨xs,ys,h1,h2,h3,h4⟩:=ans_items (A:=A) S hX hY hx hy hu
 refine SeqAt.eq_listAt (e:=fun _=>true) (S.plist h1).isList (S.plist h2).isList h3 (by lia) h4 ?_
 rw [all_true]; exact h
theorem l_eq_nil {xs:List Value}{Q:Value→Shared→Prop} (S:St c L s) (h1:(a,LiP xs)∈L) (h2:(b,LiP [])∈L) (hu:A.units<cLine) (h:Q (.bool xs.isEmpty) s):wpAny c.M A (compareOp .Eq (.ref a) (.ref b)) Q E s:=by
 cases xs with
 | nil =>
  refine SeqAt.eq_listAt (e:=fun _=>true) (S.plist h1).isList (S.plist h2).isList rfl hu (fun j q1 q2=>absurd q1 (Nat.not_lt_zero _)) ?_
  simpa using h
 | cons x xs=>exact SeqAt.eq_list_lengthsAt (S.plist h1).isList (S.plist h2).isList (by simp) hu h
end
noncomputable def sortP (l:List (Int × Int)):List (Int × Int):=open Classical in if h:∃ l':List (Int × Int),l'.Perm l∧(l'.map (·.1)).Pairwise (· < ·) then h.choose else l
theorem sorted_one {l l':List (Int × Int)} (hp:l.Perm l') (h1:(l.map (·.1)).Pairwise (· < ·)) (h2:(l'.map (·.1)).Pairwise (· < ·)):l=l':=by
 rw [List.pairwise_map] at h1 h2
 refine List.Perm.eq_of_pairwise (le:=fun a b=>a.1<b.1) (fun a b _ _ q1 q2=>?_) h1 h2 hp
 exact absurd q1 (Int.not_lt.mpr (Int.le_of_lt q2))
theorem sortP_eq {l l':List (Int × Int)} (hp:l'.Perm l) (h:(l'.map (·.1)).Pairwise (· < ·)):l'=sortP l:=by
 unfold sortP
 have ex:∃ l':List (Int × Int),l'.Perm l∧(l'.map (·.1)).Pairwise (· < ·):=⟨l',hp,h⟩
 rw [dif_pos ex]
 have:=ex.choose_spec
 exact sorted_one (hp.trans this.1.symm) h this.2
noncomputable def putA (room last now key val:Int) (ans:AnsV) (ps:List PR):AnsV × List PR :=
 if last≤0 then (ans,[]) else if room<1 then (.text (Str.ofString "refused"),livingP now ps) else (ans,putP room key val (now+last) (livingP now ps))
noncomputable def dueP (room last now deed key val:Int) (ps:List PR):AnsV × List PR :=
 if deed<2 then putA room last now key val (.pairs []) ps
 else if deed=5 then (match livingP now ps with | []=>(.text (Str.ofString "missing"),[]) | p::r=>(.pairs [(p.k,p.v)],r))
 else if deed=6 then (.pairs (sortP ((deadP now ps).map kv)),livingP now ps)
 else match (livingP now ps).find? (fun p=>decide (p.k=key)) with
  | some p=>(.int p.v,if deed=2 then dropP key ps else dropP key ps++[p])
  | none=>if deed=4 then putA room last now key val (.int val) ps else (.int (if deed=2 then -8 else -7),ps)
end
section
section
variable {env:Env}{v:Value}{a:Addr}
theorem St.extF {h':Heap}{g:Array GenState}{d:Drawn}{t:Nat}{os:OsState} (S:St c L s) (hx:Heap.ExtBut s.heap.objs.size s.heap h') (hf:∃ p∈L,True) (hg:g=s.gens) (hos:autoParam (os=s.os) aR):St c L ⟨h',g,d,t,os⟩:=by
 have ne:∀ {b o},s.heap.get? b=some o→b≠s.heap.objs.size:=fun e=>Nat.ne_of_lt (Heap.lt_size e)
 have cells:∀ p∈L,∃ o,h'.get? p.1=some o∧p.2 o:=fun p hp=>by
  obtain ⟨o,e,q⟩:=S.cells p hp
  exact ⟨o,hx _ _ (ne e) e,q⟩
 refine ⟨S.ok,fun b o e=>hx b o (ne (S.base b o e)) (S.base b o e),cells,S.apart,S.nodup,hg.trans S.gens,S.low,?_,fun p hp=>hx _ _ (ne (S.kept p hp)) (S.kept p hp),S.apK,hos.trans S.os⟩
 obtain ⟨p,hp,_⟩:=hf
 obtain ⟨o,e,_⟩:=cells p hp
 exact Nat.le_trans (S.low p hp) (Nat.le_of_lt (Heap.lt_size e))
theorem x_unpack2 {elts:List Expr}{k:Nat}{pos:Pos}{v w:Value}{Q:Unit→Shared→Prop} (S:St c L s) (ht:(a,TuP [v,w])∈L) (hh:A.handled=none)
  (hn:(assignEach elts env).length=2) (hstar:(assignEach elts env).findIdx? (·.1)=none)
  (h:∀ s',St c L s'→wpAny c.M A (assignInOrder ((assignEach elts env).map (·.2)) [v,w]) Q E s'):wpAny c.M A (assign (.Tuple elts k pos) env (.ref a)) Q E s :=
 wpAny_assign_Tuple hh (S.tup ht) hn hstar fun h' hx=>h _ (S.extF hx ⟨_,ht,trivial⟩ rfl)
theorem x_unpackNN {n1 n2:Str}{p1 p2:Pos}{k:Nat}{pos:Pos}{v w:Value}{Q:Unit→Shared→Prop} (S:St c L s) (ht:(a,TuP [v,w])∈L) (hh:A.handled=none)
  (h:∀ s',St c L s'→wpAny c.M A (storeName env n1 v) (fun _ s2=>wpAny c.M A (storeName env n2 w) Q E s2) E s'):wpAny c.M A (assign (.Tuple [.Name n1 p1,.Name n2 p2] k pos) env (.ref a)) Q E s:=by
 refine x_unpack2 S ht hh (by rfl) (by rfl) fun s' S'=>?_
 have e:(assignEach [Expr.Name n1 p1,.Name n2 p2] env).map (·.2)=[assign (.Name n1 p1) env,assign (.Name n2 p2) env]:=by rfl
 rw [e]
 refine wpAny_assignInOrder_more (wpAny_assign_Name (wpAny_mono (h s' S') (fun _ s2 z=>?_) fun _ _ z=>z))
 exact wpAny_assignInOrder_more (wpAny_assign_Name (wpAny_mono z (fun _ s3 z=>wpAny_assignInOrder_none z) fun _ _ z=>z))
theorem x_ifC {test:Expr}{body orelse:List Stmt}{pos:Pos}{Q:Flow→Shared→Prop} (b:Bool) (P:Shared→Prop)
  (h:wpAny c.M A (PySem.isTrue test env (eval test env)) (fun b' s'=>b'=b∧P s') E s)
  (h2:∀ s',P s'→Br b (wpAny c.M A (execs body env) Q E s') (wpAny c.M A (execs orelse env) Q E s')) :
  wpAny c.M A (exec (.If test body orelse pos) env) Q E s :=
 x_if (wpAny_mono h (fun b' s' z=>by obtain ⟨rfl,z⟩:=z; exact h2 s' z) fun _ _ z=>z)
theorem x_ifexp {test body orelse:Expr}{pos:Pos}{Q:Value→Shared→Prop}
  (h:wpAny c.M A (PySem.isTrue test env (eval test env)) (fun b s₂=>Br b (wpAny c.M A (eval body env) Q E s₂) (wpAny c.M A (eval orelse env) Q E s₂)) E s) :
  wpAny c.M A (eval (.IfExp test body orelse pos) env) Q E s :=
 IfExp_ (wpAny_mono h (fun _ _ h=>h.ite) (fun _ _ h=>h))
theorem x_neg {pos:Pos}{i:Int}{n:Nat}{p1:Pos}{Q:Value→Shared→Prop} (S:St c L s) (h:∀ tk s',St c L s'→Q (.int (-i) tk) s') :
  wpAny c.M A (eval (.UnaryOp .USub (.Constant (.int i) n p1) pos) env) Q E s :=
 UnaryOp_ (x_int S fun tk s' S'=>PyProof.Rows.neg_int (h _ _ (S'.like rfl rfl)))
end
end
section
noncomputable def Rw.p (r:Rw):PR:=⟨r.k,r.v,r.e⟩
noncomputable def lvR (now:Int) (rs:List Rw):List Rw:=rs.filter fun r=>decide (now<r.e)
noncomputable def ofK (key:Int) (rs:List Rw):List Rw:=rs.filter fun r=>decide (r.k=key)
section
variable {rs lv:List Rw}{r:Rw}{key now room last deed val:Int}
theorem lv_map:(lvR now rs).map Rw.p=livingP now (rs.map Rw.p):=by unfold lvR livingP; rw [List.filter_map]; rfl
theorem ofK_map:(ofK key rs).map Rw.p=(rs.map Rw.p).filter fun p=>decide (p.k=key):=by unfold ofK; rw [List.filter_map]; rfl
theorem wo_map:(wo key rs).map Rw.p=dropP key (rs.map Rw.p):=by
 unfold wo dropP
 rw [List.filter_map]
 congr 1
 refine List.filter_congr fun r _=>?_
 by_cases h:r.k=key <;> simp [Rw.p,h]
theorem find_map:(livingP now (rs.map Rw.p)).find? (fun p=>decide (p.k=key))=((ofK key (lvR now rs)).map Rw.p).head?:=by
 rw [← lv_map,ofK_map,List.head?_filter]
theorem keys_mapR:(rs.map Rw.p).map PR.k=rs.map Rw.k:=by rw [List.map_map]; rfl
theorem ofK_one (hn:(rs.map Rw.k).Nodup) (hr:r∈ofK key rs):ofK key rs=[r]:=by
 obtain ⟨h1,h2⟩:=List.mem_filter.mp hr
 have h2:r.k=key:=by simpa using h2
 obtain ⟨us,vs,rfl⟩:=List.append_of_mem h1
 rw [List.map_append,List.map_cons,List.nodup_append] at hn
 obtain ⟨_,n2,n3⟩:=hn
 rw [List.nodup_cons] at n2
 unfold ofK
 rw [List.filter_append,List.filter_cons_of_pos (by simpa using h2)]
 have e1:us.filter (fun r=>decide (r.k=key))=[]:=List.filter_eq_nil_iff.mpr fun x hx=>by
  have:=n3 _ (List.mem_map_of_mem hx) r.k (.head _)
  simpa [h2] using this
 have e2:vs.filter (fun r=>decide (r.k=key))=[]:=List.filter_eq_nil_iff.mpr fun x hx=>by
  have:x.k≠r.k:=fun e=>n2.1 (e ▸ List.mem_map_of_mem hx)
  simpa [h2] using this
 rw [e1,e2]; rfl
theorem lvR_sub:∀ r∈lvR now rs,r∈rs:=fun _ h=>(List.mem_filter.mp h).1
theorem ofK_sub:∀ r∈ofK key rs,r∈rs:=fun _ h=>(List.mem_filter.mp h).1
theorem wo_sub:∀ r∈wo key rs,r∈rs:=fun _ h=>(List.mem_filter.mp h).1
theorem trim_sub:∀ {rs:List Rw},∀ r∈trim room key rs,r∈rs
 | [],_,h=>h
 | x::rs,r,h=>by
  unfold trim at h
  split at h
  ·exact .tail _ (trim_sub r h)
  ·exact h
theorem lvR_nd (hn:(rs.map Rw.k).Nodup):((lvR now rs).map Rw.k).Nodup:=(List.filter_sublist.map _).nodup hn
theorem lvR_len:(lvR now rs).length≤rs.length:=List.length_filter_le _ _
theorem held_one (hn:(rs.map Rw.k).Nodup) (hr:r∈ofK key (lvR now rs)):ofK key (lvR now rs)=[r]∧ofK key rs=[r]:=by
 refine ⟨ofK_one (lvR_nd hn) hr,ofK_one hn ?_⟩
 obtain ⟨h1,h2⟩:=List.mem_filter.mp hr
 exact List.mem_filter.mpr ⟨lvR_sub _ h1,h2⟩
theorem trim_stay (h:((wo key lv).length:Int)+1≤room):trim room key lv=lv:=by
 cases lv with
 | nil=>rfl
 | cons r lv =>
  unfold trim
  rw [if_neg (by lia)]
theorem put_ok {new:Rw}{e:Int} (hlen:(lv.length:Int)≤room) (h1:1≤room) (hk:new.k=key) (hv:new.v=val) (he:new.e=e) :
  (wo key (trim room key lv)++[new]).map Rw.p=putP room key val e (lv.map Rw.p):=by
 have en : [new].map Rw.p=[⟨key,val,e⟩]:=by subst hk hv he; rfl
 unfold putP
 rw [List.map_append,en,wo_map]
 congr 2
 unfold staysP
 rw [show (lv.map Rw.p).map (fun x=>x.k)=lv.map Rw.k from keys_mapR,List.length_map]
 by_cases hm:key∈lv.map Rw.k
 ·rw [if_pos hm,trim_stay]
  obtain ⟨r,hr,rfl⟩:=List.mem_map.mp hm
  have:(wo r.k lv).length<lv.length:=List.length_filter_lt_length_iff_exists.mpr ⟨r,hr,by simp⟩
  lia
 ·rw [if_neg hm]
  have all:∀ {l:List Rw},(∀ r∈l,r∈lv)→wo key l=l:=fun {l} h=>List.filter_eq_self.mpr fun r hr=>by
   have:r.k≠key:=fun e=>hm (e ▸ List.mem_map_of_mem (h r hr))
   simpa using this
  by_cases h2:(lv.length:Int)+1≤room
  ·rw [if_pos h2,trim_stay (by rw [all fun _ h=>h]; exact h2)]
  ·rw [if_neg h2]
   cases lv with
   | nil=>simp at h2; lia
   | cons x lv =>
    unfold trim
    rw [all fun _ h=>h,if_pos (by lia),trim_stay]
    ·rfl
    ·rw [all fun r hr=>.tail _ hr]
     rw [List.length_cons] at hlen
     lia
end
end
section
section
variable {env:Env}{fr:Addr}
noncomputable def vals (rs:List Rw):List Value:=rs.map fun r=>.int r.v r.vt
theorem look1 (k:Nat) (v:Value) : [(k,v)].lookup k=some v:=by simp [List.lookup]
set_option genInjectivity false in
structure Sr where
 a:Addr
 k:Int
 kt:Tok
 v:Int
 vt:Tok
 rest:List Value
noncomputable def Sr.its (w:Sr):List Value:=.int w.k w.kt::.int w.v w.vt::w.rest
noncomputable def srefs (ws:List Sr):List Value:=ws.map fun w=>.ref w.a
theorem srefs_get {ws:List Sr}{i:Nat}{v:Value} (h:(srefs ws)[i]? = some v):∃ r,ws[i]? = some r∧v=.ref r.a∧r∈ws:=by
 unfold srefs at h
 rw [List.getElem?_map] at h
 cases e:ws[i]? with
 | none=>rw [e] at h; cases h
 | some r=>rw [e] at h; cases h; exact ⟨r,rfl,rfl,List.mem_of_getElem? e⟩
theorem pairs_snoc {ts:List Tp}{x:Tp}:pairRefs (ts++[x])=pairRefs ts++[.ref x.1]∧pairsOf (ts++[x])=pairsOf ts++[(x.2.1,x.2.2.2.1)]∧(pairCells (ts++[x])).Perm ((x.1,TuP [.int x.2.1 x.2.2.1,.int x.2.2.2.1 x.2.2.2.2])::pairCells ts):=by
 unfold pairRefs pairsOf pairCells
 rw [List.map_append,List.map_append,List.map_append]
 exact ⟨rfl,rfl,List.perm_append_comm⟩
noncomputable def x_pairsG_P (x:Str) (kx:Nat) (iter:Expr) (px pe pe' p2 p2' p3 p3' p4 pos:Pos) (n n' k':Nat) (ifs:List Expr) (scope:Scope) (cl:List (Str × Addr)) (Q:Value → Shared → Prop):Prop:=∀ (p:Sr → Bool) (hx0:N[kx]? = some x) (hk0:kx ≠ 0) (hclos:closureFor scope env=pure cl) (hcell:∀ y ∈ scope.names, y.2 ≠ .cell) (hkind:scope.kind=.function) (hnames:∀ y ∈ scope.names, y.2=.local → scope.names.lookup y.1=some .local) (hx:scope.names.lookup x=some .local) (hs:∀ v, foldedSetIterable iter env v=pure v) (hh:A.handled=none) (ht:∀ C, backTo p4 (starEach [Expr.Subscript (.Name x pe) (.Constant (.int 0) n p2) p3, .Subscript (.Name x pe') (.Constant (.int 1) n' p2') p3'] (compEnvC scope cl C env))=trees (compEnvC scope cl C env) [Expr.Subscript (.Name x pe) (.Constant (.int 0) n p2) p3, .Subscript (.Name x pe') (.Constant (.int 1) n' p2') p3']) (hi:wpAny c.M A (eval iter env) (fun xv s₁ => ∃ a ws L0, xv=.ref a ∧ (ws:List Sr).length≤900 ∧ (∀ w ∈ ws, w.rest.length≤10) ∧ (∀ w ∈ ws, (w.a, TuP w.its) ∈ L0) ∧ St c ((a, LiP (srefs ws)) :: L0) s₁ ∧
   (∀ w∈ws,∀ (a C I D:Addr) (ys:List Value) (i:Nat) (X:List Cell) (s':Shared) (E':Value→Shared→Prop) (Q':Bool→Shared→Prop),St c ((C,Nm [(kx,.ref w.a)])::(I,LI a i)::(D,LiP ys)::(a,LiP (srefs ws))::(X++L0)) s' →
    (∀ s'',St c ((C,Nm [(kx,.ref w.a)])::(I,LI a i)::(D,LiP ys)::(a,LiP (srefs ws))::(X++L0)) s''→Q' (p w) s'')→Tst c A ifs (compEnvC scope cl C env) Q' E' s') ∧
   (∀ a D ts s',pairsOf ts=(ws.filter p).map (fun w=>(w.k,w.v))→St c ((D,LiP (pairRefs ts))::(a,LiP (srefs ws))::(pairCells ts++L0)) s'→Q (.ref D) s')) E s),wpAny c.M A (eval (.ListComp (.Tuple [Expr.Subscript (.Name x pe) (.Constant (.int 0) n p2) p3,.Subscript (.Name x pe') (.Constant (.int 1) n' p2') p3'] k' p4) [⟨.Name x px,iter,ifs,0⟩] scope pos) env) Q E s
theorem x_pairsG {x:Str}{kx:Nat}{iter:Expr}{px pe pe' p2 p2' p3 p3' p4 pos:Pos}{n n' k':Nat}{ifs:List Expr}{scope:Scope}{cl:List (Str × Addr)}{Q:Value→Shared→Prop}:@x_pairsG_P c s A E env x kx iter px pe pe' p2 p2' p3 p3' p4 pos n n' k' ifs scope cl Q:=by
 revert c s A E env x kx iter px pe pe' p2 p2' p3 p3' p4 pos n n' k' ifs scope cl Q
 walk_at "e9"; intro c s A E env x kx iter px
 walk_at "e9"; intro pe pe' p2 p2' p3 p3' p4 pos n
 walk_at "e5"; intro n' k' ifs scope cl
 walk_at "e1"; intro Q
 intro p hx0 hk0 hclos hcell hkind hnames hx hs hh ht hi
 refine x_listcomp (kx:=kx) hx0 hclos hcell hkind hnames hx hs hh (wpAny_mono hi (fun xv s₁ z=>?_) fun _ _ z=>z)
 obtain ⟨a,ws,L0,rfl,hz,hrest,hm,S,hts,fin⟩:=z
 have lw:(srefs ws).length=ws.length:=List.length_map ..
 refine ⟨a,srefs ws,L0,rfl,S,by rw [lw]; exact hz,fun i ys X=>∃ ts,X=pairCells ts∧ys=pairRefs ts∧ts.length≤i∧pairsOf ts=((ws.take i).filter p).map (fun w=>(w.k,w.v)),⟨[],rfl,rfl,Nat.le_refl _,rfl⟩,?_,?_,?_⟩
 ·rintro i ys X ⟨ts,_,rfl,h,_⟩
  unfold pairRefs
  rw [List.length_map]
  exact h
 ·rintro i v ys X C I D s' E' hv ⟨ts,rfl,rfl,hl,hp⟩ S
  obtain ⟨w,h1,rfl,h2⟩:=srefs_get hv
  have tf:=take_succ_filter p ws i w h1
  refine hts w h2 a C I D _ _ _ _ _ _ S fun s'' S=>?_
  constructor
  ·intro hpw
   refine x_tup (ht C) ?_
   have hm':(w.a,TuP w.its)∈pairCells ts++L0:=List.mem_append_right _ (hm w h2)
   refine Ev.cons (Subscript_ (c_local S hkind hx (.head _) hx0 hk0 (look1 kx _) (x_int S fun tk s2 S=>?_)))
   refine t_item S (its:=w.its) (i:=0) (v:=.int w.k w.kt) (by walk_at "m") rfl (by have:=hrest w h2; unfold Sr.its; rw [List.length_cons,List.length_cons]; lia) ?_
   refine Ev.cons (Subscript_ (c_local S hkind hx (.head _) hx0 hk0 (look1 kx _) (x_int S fun tk s2 S=>?_)))
   refine t_item S (its:=w.its) (i:=1) (v:=.int w.v w.vt) (by walk_at "m") rfl (by have:=hrest w h2; unfold Sr.its; rw [List.length_cons,List.length_cons]; lia) ?_
   refine Ev.nil ⟨_,S,Nat.le_of_ble_eq_true (by rfl),fun x s' S=>?_⟩
   obtain ⟨e1,e2,e3⟩:=pairs_snoc (ts:=ts) (x:=(x,w.k,w.kt,w.v,w.vt))
   refine ⟨pairCells (ts++[(x,w.k,w.kt,w.v,w.vt)]),⟨_,rfl,e1.symm,by rw [List.length_append,List.length_singleton]; lia,?_⟩,?_⟩
   ·rw [e2,hp,tf,if_pos hpw,List.map_append]; rfl
   ·exact S.perm (((e3.append_right L0).append_left [(C,Nm [(kx,.ref w.a)]),(I,LI a (i+1)),(D,LiP (pairRefs ts)),(a,LiP (srefs ws))]).trans List.perm_middle)
  ·intro hpw
   refine ⟨⟨ts,rfl,rfl,by lia,?_⟩,S⟩
   rw [tf,if_neg (by rw [hpw]; decide),List.append_nil]
   exact hp
 ·rintro D ys X s' ⟨ts,rfl,rfl,_,hp⟩ S
  refine fin a D ts s' ?_ S
  rw [hp,lw,List.take_length]
theorem x_pairs {x:Str}{kx:Nat}{iter:Expr}{px pe pe' p2 p2' p3 p3' p4 pos:Pos}{n n' k':Nat}{ifs:List Expr}{scope:Scope}{cl:List (Str × Addr)}{ws:List Sr}{L0:List Cell}{Q:Value→Shared→Prop} (p:Sr→Bool)
  (hx0:N[kx]? = some x) (hk0:kx≠0) (hclos:closureFor scope env=pure cl) (hcell:∀ y∈scope.names,y.2≠.cell) (hkind:scope.kind=.function) (hnames:∀ y∈scope.names,y.2=.local→scope.names.lookup y.1=some .local) (hx:scope.names.lookup x=some .local)
  (hs:∀ v,foldedSetIterable iter env v=pure v) (hh:A.handled=none) (hz:ws.length≤900) (hrest:∀ w∈ws,w.rest.length≤10)
  (ht:∀ C,backTo p4 (starEach [Expr.Subscript (.Name x pe) (.Constant (.int 0) n p2) p3,.Subscript (.Name x pe') (.Constant (.int 1) n' p2') p3'] (compEnvC scope cl C env))=trees (compEnvC scope cl C env) [Expr.Subscript (.Name x pe) (.Constant (.int 0) n p2) p3,.Subscript (.Name x pe') (.Constant (.int 1) n' p2') p3'])
  (hi:wpAny c.M A (eval iter env) (fun xv s₁=>∃ a,xv=.ref a∧(∀ w∈ws,(w.a,TuP w.its)∈L0)∧St c ((a,LiP (srefs ws))::L0) s₁) E s)
  (hts:∀ w∈ws,∀ (a C I D:Addr) (ys:List Value) (i:Nat) (X:List Cell) (s':Shared) (E':Value→Shared→Prop) (Q':Bool→Shared→Prop),St c ((C,Nm [(kx,.ref w.a)])::(I,LI a i)::(D,LiP ys)::(a,LiP (srefs ws))::(X++L0)) s' →
   (∀ s'',St c ((C,Nm [(kx,.ref w.a)])::(I,LI a i)::(D,LiP ys)::(a,LiP (srefs ws))::(X++L0)) s''→Q' (p w) s'')→Tst c A ifs (compEnvC scope cl C env) Q' E' s')
  (fin:∀ a D ts s',pairsOf ts=(ws.filter p).map (fun w=>(w.k,w.v))→St c ((D,LiP (pairRefs ts))::(a,LiP (srefs ws))::(pairCells ts++L0)) s'→Q (.ref D) s') :
  wpAny c.M A (eval (.ListComp (.Tuple [Expr.Subscript (.Name x pe) (.Constant (.int 0) n p2) p3,.Subscript (.Name x pe') (.Constant (.int 1) n' p2') p3'] k' p4) [⟨.Name x px,iter,ifs,0⟩] scope pos) env) Q E s :=
 x_pairsG p hx0 hk0 hclos hcell hkind hnames hx hs hh ht (wpAny_mono hi (fun xv s₁ z=>by
  obtain ⟨a,rfl,hm,S⟩:=z
  exact ⟨a,ws,L0,rfl,hz,hrest,hm,S,hts,fin⟩) fun _ _ z=>z)
end
end
section
section
variable {env:Env}{v:Value}{a:Addr}{P:Obj→Prop}
noncomputable def x_listcompA_P (elt iter:Expr) (x y:Str) (kx:Nat) (px py pos spos:Pos) (ifs:List Expr) (scope:Scope) (cl:List (Str × Addr)) (Q:Flow → Shared → Prop):Prop:=∀ (hx0:N[kx]? = some x) (hclos:closureFor scope env=pure cl) (hcell:∀ y ∈ scope.names, y.2 ≠ .cell) (hkind:scope.kind=.function) (hnames:∀ y ∈ scope.names, y.2=.local → scope.names.lookup y.1=some .local) (hx:scope.names.lookup x=some .local) (hs:∀ v, foldedSetIterable iter env v=pure v) (hh:A.handled=none) (h:wpAny c.M A (eval iter env) (fun xv s₁ => ∃ (a:Addr) (items:List Value) (L0:List Cell), xv=.ref a ∧ St c ((a, LiP items) :: L0) s₁ ∧ items.length≤900 ∧ ∃ (J:Nat → List Value → List Cell → Prop), J 0 [] [] ∧ (∀ i ys X, J i ys X → ys.length≤i) ∧
   (∀ i v ys X C I D s' E',items[i]? = some v→J i ys X→St c ((C,Nm [(kx,v)])::(I,LI a (i+1))::(D,LiP ys)::(a,LiP items)::(X++L0)) s' →
    Tst c A ifs (compEnvC scope cl C env) (fun ok s₃=>Br ok (wpAny c.M A (eval elt (compEnvC scope cl C env)) (fun y s₄=>∃ X',J (i+1) (ys++[y]) X'∧St c ((C,Nm [(kx,v)])::(I,LI a (i+1))::(D,LiP ys)::(a,LiP items)::(X'++L0)) s₄) E' s₃)
     (J (i+1) ys X∧St c ((C,Nm [(kx,v)])::(I,LI a (i+1))::(D,LiP ys)::(a,LiP items)::(X++L0)) s₃)) E' s') ∧
   (∀ D ys X C W s',J items.length ys X→St c ((C,Nm W)::(D,LiP ys)::(a,LiP items)::(X++L0)) s' →
    wpAny c.M A (storeName env y (.ref D)) (fun _ s''=>∃ W' L'',(∃ p∈L'',True)∧St c ((C,Nm W')::L'') s''∧∀ s3,St c L'' s3→Q .next s3) E s')) E s) (hsw:swapsWith (.ListComp elt [⟨.Name x px,iter,ifs,0⟩] scope pos) (some (.Name y py)) spos.line env=pure true),wpAny c.M A (exec (.Assign [.Name y py] (.ListComp elt [⟨.Name x px,iter,ifs,0⟩] scope pos) spos) env) Q E s
theorem x_listcompA {elt iter:Expr}{x y:Str}{kx:Nat}{px py pos spos:Pos}{ifs:List Expr}{scope:Scope}{cl:List (Str × Addr)}{Q:Flow→Shared→Prop}:@x_listcompA_P c s A E env elt iter x y kx px py pos spos ifs scope cl Q:=by
 revert c s A E env elt iter x y kx px py pos spos ifs scope cl Q
 walk_at "e9"; intro c s A E env elt iter x y
 walk_at "e9"; intro kx px py pos spos ifs scope cl Q
 intro hx0 hclos hcell hkind hnames hx hs hh h hsw
 rw [exec_Assign_Name_used _ _ _ _ hsw]
 refine wpAny_bind (wpAny_standAt (wpAny_bind ?_))
 show wpAny _ A (do let _ ← comprehension (.ListComp elt [⟨.Name x px,iter,ifs,0⟩] scope pos) scope env _ (newList []) false (eval iter env) (some (assign (.Name y py) env))) _ _ s
 refine wpAny_bind (wpAny_mono (listcomp_core (use:=some (assign (.Name y py) env)) (Q:=fun _ s'=>Q .next s') hx0 hclos hcell hkind hnames hx hs hh (wpAny_mono h (fun xv s₁ z=>?_) fun _ _ e=>e)) (fun _ s' hq=>wpAny_pure (wpAny_pure hq)) fun _ _ e=>e)
 obtain ⟨a,items,L0,e,S,hz,J,j0,jl,turn,fin⟩:=z
 refine ⟨a,items,L0,e,S,hz,J,j0,jl,turn,fun D ys X C W s' hJ S=>?_⟩
 refine wpAny_assign_Name (wpAny_mono (fin D ys X C W s' hJ S) (fun _ s'' z=>?_) fun _ _ e=>e)
 obtain ⟨W',L'',hf,S2,hq⟩:=z
 obtain ⟨oc,g1,m,⟨es,ep,q1,q2,q3⟩,hm⟩:=S2.get (.head _)
 exact ⟨m,⟨oc,es,ep,g1,q1,q2,q3⟩,fun h'' hs=>hq _ (S2.ext hs.extBut hf rfl)⟩
end
end
section
section
variable {env:Env}{fr:Addr}
noncomputable def x_rowfilterA_P (iter test:Expr) (y:Str) (px pe py pos spos:Pos) (scope:Scope) (cl:List (Str × Addr)) (a:Addr) (rs:List Rw) (L0:List Cell) (Q:Flow → Shared → Prop):Prop:=∀ (p:Rw → Bool) (hclos:closureFor scope env=pure cl) (hcell:∀ y ∈ scope.names, y.2 ≠ .cell) (hkind:scope.kind=.function) (hnames:∀ y ∈ scope.names, y.2=.local → scope.names.lookup y.1=some .local) (hx:scope.names.lookup (Str.ofString "row")=some .local) (hs:∀ v, foldedSetIterable iter env v=pure v) (hh:A.handled=none) (hz:rs.length≤900) (hsw:swapsWith (.ListComp (.Name (Str.ofString "row") pe) [⟨.Name (Str.ofString "row") px, iter, [test], 0⟩] scope pos) (some (.Name y py)) spos.line env=pure true) (hi:wpAny c.M A (eval iter env) (fun xv s₁ => xv=.ref a ∧ St c ((a, LiP (refs rs)) :: L0) s₁) E s) (ht:∀ r ∈ rs, ∀ C I D ys i s' E' Q', St c ((C, Nm [(90, .ref r.a)]) :: (I, LI a i) :: (D, LiP ys) :: (a, LiP (refs rs)) :: L0) s' → (∀ s'', St c ((C, Nm [(90, .ref r.a)]) :: (I, LI a i) :: (D, LiP ys) :: (a, LiP (refs rs)) :: L0) s'' → Q' (p r) s'') →
   wpAny c.M A (PySem.isTrue test (compEnvC scope cl C env) (eval test (compEnvC scope cl C env))) Q' E' s') (fin:∀ D C W s',St c ((C,Nm W)::(D,LiP (refs (rs.filter p)))::(a,LiP (refs rs))::L0) s' →
   wpAny c.M A (storeName env y (.ref D)) (fun _ s''=>∃ W' L'',(∃ p∈L'',True)∧St c ((C,Nm W')::L'') s''∧∀ s3,St c L'' s3→Q .next s3) E s'),wpAny c.M A (exec (.Assign [.Name y py] (.ListComp (.Name (Str.ofString "row") pe) [⟨.Name (Str.ofString "row") px,iter,[test],0⟩] scope pos) spos) env) Q E s
theorem x_rowfilterA {iter test:Expr}{y:Str}{px pe py pos spos:Pos}{scope:Scope}{cl:List (Str × Addr)}{a:Addr}{rs:List Rw}{L0:List Cell}{Q:Flow→Shared→Prop}:@x_rowfilterA_P c s A E env iter test y px pe py pos spos scope cl a rs L0 Q:=by
 revert c s A E env iter test y px pe py pos spos scope cl a rs L0 Q
 walk_at "e9"; intro c s A E env iter test y px
 walk_at "e9"; intro pe py pos spos scope cl a rs L0
 walk_at "e1"; intro Q
 intro p hclos hcell hkind hnames hx hs hh hz hsw hi ht fin
 refine x_listcompA (kx:=90) ix90 hclos hcell hkind hnames hx hs hh (wpAny_mono hi (fun xv s₁ z=>?_) fun _ _ z=>z) hsw
 obtain ⟨rfl,S⟩:=z
 refine ⟨a,refs rs,L0,rfl,S,by unfold refs; rw [List.length_map]; exact hz,fun i ys X=>X=[]∧ys=refs ((rs.take i).filter p),⟨rfl,rfl⟩,?_,?_,?_⟩
 ·rintro i ys X ⟨_,rfl⟩
  unfold refs
  rw [List.length_map]
  exact Nat.le_trans (List.length_filter_le _ _) (List.length_take_le _ _)
 ·rintro i v ys X C I D s' E' hv ⟨rfl,rfl⟩ S
  obtain ⟨r,h1,rfl,h2⟩:=refs_get hv
  refine Tst.one (ht r h2 C I D _ _ s' _ _ S fun s'' S=>?_)
  have tf:=take_filter p h1
  constructor
  ·intro hp
   rw [hp,if_pos rfl] at tf
   refine c_local S hkind hx (.head _) ix90 (by decide) rfl ⟨[],⟨rfl,tf.symm⟩,S⟩
  ·intro hp
   rw [hp,if_neg (by decide),List.append_nil] at tf
   exact ⟨⟨rfl,tf.symm⟩,S⟩
 ·rintro D ys X C W s' ⟨rfl,rfl⟩ S
  refine fin D C W s' ?_
  have e:(rs.take (refs rs).length).filter p=rs.filter p:=by unfold refs; rw [List.length_map,List.take_length]
  rw [e] at S
  exact S
noncomputable def x_rowvalsA_P (iter:Expr) (y:Str) (px pe p2 p3 py pos spos:Pos) (n:Nat) (scope:Scope) (cl:List (Str × Addr)) (rs:List Rw) (L0:List Cell) (Q:Flow → Shared → Prop):Prop:=∀ (hclos:closureFor scope env=pure cl) (hcell:∀ y ∈ scope.names, y.2 ≠ .cell) (hkind:scope.kind=.function) (hnames:∀ y ∈ scope.names, y.2=.local → scope.names.lookup y.1=some .local) (hx:scope.names.lookup (Str.ofString "row")=some .local) (hs:∀ v, foldedSetIterable iter env v=pure v) (hh:A.handled=none) (hz:rs.length≤900) (hm:∀ r ∈ rs, (r.a, TuP r.tup) ∈ L0) (hsw:swapsWith (.ListComp (.Subscript (.Name (Str.ofString "row") pe) (.Constant (.int 1) n p2) p3) [⟨.Name (Str.ofString "row") px, iter, [], 0⟩] scope pos) (some (.Name y py)) spos.line env=pure true) (hi:wpAny c.M A (eval iter env) (fun xv s₁ => ∃ a, xv=.ref a ∧ St c ((a, LiP (refs rs)) :: L0) s₁) E s) (fin:∀ a D C W s', St c ((C, Nm W) :: (D, LiP (vals rs)) :: (a, LiP (refs rs)) :: L0) s' →
   wpAny c.M A (storeName env y (.ref D)) (fun _ s''=>∃ W' L'',(∃ p∈L'',True)∧St c ((C,Nm W')::L'') s''∧∀ s3,St c L'' s3→Q .next s3) E s'),wpAny c.M A (exec (.Assign [.Name y py] (.ListComp (.Subscript (.Name (Str.ofString "row") pe) (.Constant (.int 1) n p2) p3) [⟨.Name (Str.ofString "row") px,iter,[],0⟩] scope pos) spos) env) Q E s
theorem x_rowvalsA {iter:Expr}{y:Str}{px pe p2 p3 py pos spos:Pos}{n:Nat}{scope:Scope}{cl:List (Str × Addr)}{rs:List Rw}{L0:List Cell}{Q:Flow→Shared→Prop}:@x_rowvalsA_P c s A E env iter y px pe p2 p3 py pos spos n scope cl rs L0 Q:=by
 revert c s A E env iter y px pe p2 p3 py pos spos n scope cl rs L0 Q
 walk_at "e9"; intro c s A E env iter y px pe
 walk_at "e9"; intro p2 p3 py pos spos n scope cl rs
 walk_at "e2"; intro L0 Q
 intro hclos hcell hkind hnames hx hs hh hz hm hsw hi fin
 refine x_listcompA (kx:=90) ix90 hclos hcell hkind hnames hx hs hh (wpAny_mono hi (fun xv s₁ z=>?_) fun _ _ z=>z) hsw
 obtain ⟨a,rfl,S⟩:=z
 refine ⟨a,refs rs,L0,rfl,S,by unfold refs; rw [List.length_map]; exact hz,fun i ys X=>X=[]∧ys=vals (rs.take i),⟨rfl,rfl⟩,?_,?_,?_⟩
 ·rintro i ys X ⟨_,rfl⟩
  unfold vals
  rw [List.length_map]
  exact List.length_take_le _ _
 ·rintro i v ys X C I D s' E' hv ⟨rfl,rfl⟩ S
  obtain ⟨r,h1,rfl,h2⟩:=refs_get hv
  refine Tst.nil (Br.t (Subscript_ (c_local S hkind hx (.head _) ix90 (by decide) rfl (x_int S fun tk s2 S=>?_))))
  have hm':=hm r h2
  refine t_item S (its:=r.tup) (v:=.int r.v r.vt) (by walk_at "m") rfl (Nat.le_of_ble_eq_true (by rfl)) ?_
  refine ⟨[],⟨rfl,?_⟩,S⟩
  unfold vals
  rw [List.take_add_one,h1]
  simp
 ·rintro D ys X C W s' ⟨rfl,rfl⟩ S
  refine fin a D C W s' ?_
  have e:vals (rs.take (refs rs).length)=vals rs:=by unfold refs; rw [List.length_map,List.take_length]
  rw [e] at S
  exact S
end
end
section
theorem keys_pairs {ts:List Tp}:ts.map (·.2.1)=(pairsOf ts).map (·.1):=by unfold pairsOf; rw [List.map_map]; rfl
theorem dead_keys {ps:List PR}{now:Int} (hn:(ps.map PR.k).Nodup):(((deadP now ps).map kv).map (·.1)).Nodup:=by
 rw [List.map_map]
 exact (List.filter_sublist.map PR.k).nodup hn
theorem pairs_perm {ts us:List Tp} (h:ts.Perm us):(pairsOf ts).Perm (pairsOf us)∧(pairCells ts).Perm (pairCells us):=⟨h.map _,h.map _⟩
section
variable {ps:List PR}{room last now deed key val:Int}{p:PR}
theorem find_there (hn:(ps.map PR.k).Nodup) (hp:p∈ps) (hk:p.k=key) (he:now<p.e):(livingP now ps).find? (fun p=>decide (p.k=key))=some p:=by
 rw [← List.head?_filter]
 unfold livingP
 rw [List.filter_filter]
 obtain ⟨us,vs,rfl⟩:=List.append_of_mem hp
 rw [List.map_append,List.map_cons,List.nodup_append] at hn
 obtain ⟨_,n2,n3⟩:=hn
 rw [List.filter_append,List.filter_cons_of_pos (by simp [hk,he])]
 have e1:us.filter (fun a=>decide (a.k=key) && decide (now<a.e))=[]:=List.filter_eq_nil_iff.mpr fun x hx=>by
  have:=n3 _ (List.mem_map_of_mem hx) p.k (.head _)
  rw [hk] at this
  simp [this]
 rw [e1]; rfl
theorem find_not (h:∀ p∈ps,p.k=key→¬ now<p.e):(livingP now ps).find? (fun p=>decide (p.k=key))=none:=by
 rw [List.find?_eq_none]
 intro x hx
 obtain ⟨h1,h2⟩:=List.mem_filter.mp hx
 have h2:now<x.e:=by simpa using h2
 simpa using fun z=>h x h1 z h2
theorem dueQ_put (h:deed<2):dueP room last now deed key val ps=putA room last now key val (.pairs []) ps:=by
 unfold dueP; rw [if_pos h]
theorem dueQ_5:dueP room last now 5 key val ps=(match livingP now ps with | []=>(.text (Str.ofString "missing"),[]) | p::r=>(.pairs [(p.k,p.v)],r)):=by
 unfold dueP
 rw [if_neg (by decide),if_pos rfl]
 try rfl
theorem dueQ_6:dueP room last now 6 key val ps=(.pairs (sortP ((deadP now ps).map kv)),livingP now ps):=by
 unfold dueP
 rw [if_neg (by decide),if_neg (by decide),if_pos rfl]
theorem dueQ_there (h2:¬ deed<2) (h5:deed≠5) (h6:deed≠6) (hn:(ps.map PR.k).Nodup) (hp:p∈ps) (hk:p.k=key) (he:now<p.e):dueP room last now deed key val ps=(.int p.v,if deed=2 then dropP key ps else dropP key ps++[p]):=by
 unfold dueP
 rw [if_neg h2,if_neg h5,if_neg h6,find_there hn hp hk he]
theorem dueQ_not (h2:¬ deed<2) (h5:deed≠5) (h6:deed≠6) (h:∀ p∈ps,p.k=key→¬ now<p.e):dueP room last now deed key val ps=if deed=4 then putA room last now key val (.int val) ps else (.int (if deed=2 then -8 else -7),ps):=by
 unfold dueP
 rw [if_neg h2,if_neg h5,if_neg h6,find_not h]
end
theorem keep1390 (P:Params):keepIn (Mine.K P) (.ref 1390)=true:=by kernel_rfl!
theorem keep988 (P:Params):keepIn (Mine.K P) (.ref 988)=true:=by kernel_rfl!
theorem keep981 (P:Params):keepIn (Mine.K P) (.ref 981)=true:=by kernel_rfl!
theorem keep995 (P:Params):keepIn (Mine.K P) (.ref 995)=true:=by kernel_rfl!
section
variable {env:Env}{fr:Addr}{f:Addr}{fd:FuncData}{tbl:List (Nat × NameKind)}{l:List (Nat × Value)}
structure OkL (A:Around) (L:List Cell):Prop where
 depth:A.depth+25<recursionLimit
 units:A.units+110<cLine
 handled:A.handled=none
 frs:Frs A L
theorem OkL.deep (F:Fn f fd tbl) (h:OkL A L):Ok (A.deeper (envF f fd fr)) ((fr,Nm l)::L) :=
 ⟨by have:=h.depth; rw [depth_deeper]; lia,by have:=h.units; show A.units+3+100<_; lia,h.handled,h.frs.deeper F⟩
noncomputable abbrev deedFr (ca:Addr) (deed key val:Int) (dt kt vt:Tok):List (Nat × Value):=[(15,.int val vt),(11,.int key kt),(94,.int deed dt),(93,.ref ca)]
variable {K:Ck c}{M:Mem c K}{ps:List PR}{t m:Int}{B:Nat}{X:List Cell}{deed key val:Int}{dt kt vt:Tok}
noncomputable def hs1390:List ExceptHandler:=match bodyOf fd1390 with | [.Try _ hs _ _ _]=>hs | _=>[]
theorem deed_refused {L':List Cell}{e:Addr}{x2:Value}{Q:Flow→Shared→Prop} (W:Tw c L' e (.type "ValueError") .none x2 s) (Kk:Sk (A.deeper (envF 1390 fd1390 fr)) (envF 1390 fd1390 fr) fr L')
  (h:∀ b tk s',St c ((b,LiP [.str (Str.ofString "refused") tk])::L') s'→Q (.ret (.ref b)) s'):Hd c (A.deeper (envF 1390 fd1390 fr)) (envF 1390 fd1390 fr) hs1390 Q E (.ref e) s:=by
 have F:=fn1390
 unfold hs1390 bodyOf
 show Hd c _ _ (_::_::[]) Q E _ _
 refine (Fl.next W).hd Kk fun s W=>?_
 refine by_other W F (by walk_at "i") (by decide) (by rfl) (by rfl) (by rw [isSubtype_type]; kernel_rfl) (by rw [isSubtype_type]; kernel_rfl) (by rw [isSubtype_type]; kernel_rfl) ?_
 refine by_kindW W F (by walk_at "i") (by decide) (by rfl) (by rfl) (by rw [isSubtype_type]; kernel_rfl) (by rw [isSubtype_type]; kernel_rfl) (by rw [isSubtype_type]; kernel_rfl) fun s W=>?_
 have S:=W.St
 walk_at "g"
 exact h _ _ _ ‹_›
theorem deed_missing {L':List Cell}{e:Addr}{x2:Value}{Q:Flow→Shared→Prop} (W:Tw c L' e (.type "KeyError") .none x2 s) (Kk:Sk (A.deeper (envF 1390 fd1390 fr)) (envF 1390 fd1390 fr) fr L')
  (h:∀ b tk s',St c ((b,LiP [.str (Str.ofString "missing") tk])::L') s'→Q (.ret (.ref b)) s'):Hd c (A.deeper (envF 1390 fd1390 fr)) (envF 1390 fd1390 fr) hs1390 Q E (.ref e) s:=by
 have F:=fn1390
 unfold hs1390 bodyOf
 show Hd c _ _ (_::_::[]) Q E _ _
 refine (Fl.next W).hd Kk fun s W=>?_
 refine by_kindW W F (by walk_at "i") (by decide) (by rfl) (by rfl) (by rw [isSubtype_type]; kernel_rfl) (by rw [isSubtype_type]; kernel_rfl) (by rw [isSubtype_type]; kernel_rfl) fun s W=>?_
 have S:=W.St
 walk_at "g"
 exact h _ _ _ ‹_›
noncomputable def toSr (x:Tp):Sr:=⟨x.1,x.2.1,x.2.2.1,x.2.2.2.1,x.2.2.2.2,[]⟩
theorem toSr_refs {ts:List Tp}:srefs (ts.map toSr)=pairRefs ts:=by unfold srefs pairRefs; rw [List.map_map]; rfl
theorem toSr_pairs {ts:List Tp}:(ts.map toSr).map (fun w=>(w.k,w.v))=pairsOf ts:=by unfold pairsOf; rw [List.map_map]; rfl
noncomputable def law_deed_P:Prop:=∀ (g:M.G ps t B X) (hB:B≤600) (ok:OkL A L) (hd6:deed≤6) (hz:ps.length≤4) (S:St c (X++(K.G t m++L)) s) (h:∀ b u ps' Y X' s',(u,ps')=dueP M.room M.last (t+K.step) deed key val ps→AnsC b u Y→M.G ps' (t+K.step) (B+1) X'→St c (Y++(X'++(K.G (t+K.step) (m+1)++L))) s'→R (.ok (.ret (.ref b))) s'),codeAny c.M A (.call (.ref 1390) ⟨[.ref M.ca,.int deed dt,.int key kt,.int val vt],[]⟩) R s
set_option maxHeartbeats 1000000 in
theorem law_deed:@law_deed_P c L s A R K M ps t m B X deed key val dt kt vt:=by
 revert c L s A R K M ps t m B X deed key val dt kt vt
 walk_at "e5"; intro c L s A R
 walk_at "e1"; intro K
 walk_at "e9"; intro M ps t m B X deed key val
 walk_at "e2"; intro dt kt
 walk_at "e1"; intro vt
 intro g hB ok hd6 hz S h
 refine f_call fn1390 [(93,.ref M.ca),(94,.int deed dt),(11,.int key kt),(15,.int val vt)] S (by have:=ok.depth; lia) (by rfl) (by kernel_rfl!) (by kernel_rfl!) ?_
 intro fr s S
 have F:=fn1390
 have ok':Ok (A.deeper (envF 1390 fd1390 fr)) ((fr,Nm (deedFr M.ca deed key val dt kt vt))::L):=ok.deep F
 have S:St c (X++(K.G t m++((fr,Nm (deedFr M.ca deed key val dt kt vt))::L))) s:=S.perm (by walk_at "d")
 have sk:∀ {L'},(fr,Nm (deedFr M.ca deed key val dt kt vt))∈L'→(∀ p∈L,p∈L')→Sk (A.deeper (envF 1390 fd1390 fr)) (envF 1390 fd1390 fr) fr L':=fun hm hs=>Sk.deep F ok.frs hm hs
 have inst:=M.inst g
 have hcx:(M.ca,InstP M.C M.cd)∈X:=inst.1
 obtain ⟨PP,hcd⟩:=inst.2
 walk_at "g"
 refine ⟨fun e2=>?_,fun e1=>?_⟩
 ·have e2:deed<2:=of_decide_eq_true e2
  have hD:=dueQ_put (room:=M.room) (last:=M.last) (now:=t+K.step) (key:=key) (val:=val) (ps:=ps) e2
  walk_at "g"
  rename_i s S _
  refine i_set S (l:=deedFr M.ca deed key val dt kt vt) (by walk_at "m") (List.mem_append_left _ hcx) (List.mem_append_left _ hcd) M.sp_set ?_
  refine M.set g hB ok' S (fun hl X' s g' S=>?_) (fun hl hr X' e s g' W=>?_) (fun hl hr X' s g' S=>?_)
  ·rw [putA,if_pos hl] at hD
   walk_at "g"
   rename_i b s S
   exact h b _ _ [(b,LiP [])] X' _ hD.symm ⟨[],rfl,rfl⟩ (M.mono g' (Nat.le_succ _)) ((S.dropAt (p:=(fr,_)) (by walk_at "k")).perm (by walk_at "d"))
  ·rw [putA,if_neg (by lia),if_pos hr] at hD
   refine deed_refused W (sk (by walk_at "m") fun p hp=>by walk_at "m") fun b tk s S=>?_
   exact h b _ _ [(b,LiP _)] X' _ hD.symm ⟨tk,rfl⟩ (M.mono g' (Nat.le_succ _)) ((S.dropAt (p:=(fr,_)) (by walk_at "k")).perm (by walk_at "d"))
  ·rw [putA,if_neg (by lia),if_neg (by lia)] at hD
   walk_at "g"
   rename_i b s S
   exact h b _ _ [(b,LiP [])] X' _ hD.symm ⟨[],rfl,rfl⟩ g' ((S.dropAt (p:=(fr,_)) (by walk_at "k")).perm (by walk_at "d"))
 walk_at "g"
 refine ⟨fun e2=>?_,fun e2=>?_⟩
 ·have e2:deed=2:=by simpa using e2
  subst e2
  walk_at "g"
  refine M.m_pop g ‹_› (fun p hp=>List.mem_append_left _ hp) ?_
  refine To.K keep988 ?_
  walk_at "g"
  refine x_neg ‹_› fun dtk s S=>?_
  refine Ev.nil ⟨⟨_,S⟩,M.pop g hB ok' S (fun p hp hk he X' vt' s g' S=>?_) (fun hno X' s g' S=>?_)⟩
  ·have hD:=dueQ_there (room:=M.room) (last:=M.last) (val:=val) (deed:=2) (by decide) (by decide) (by decide) (M.nodup g) hp hk he
   walk_at "g"
   rename_i b s S
   exact h b _ _ [(b,LiP [.int p.v vt'])] X' _ hD.symm ⟨vt',rfl⟩ (M.mono g' (Nat.le_succ _)) ((S.dropAt (p:=(fr,_)) (by walk_at "k")).perm (by walk_at "d"))
  ·have hD:=dueQ_not (room:=M.room) (last:=M.last) (val:=val) (deed:=2) (by decide) (by decide) (by decide) hno
   walk_at "g"
   rename_i b s S
   exact h b _ _ [(b,LiP [.int _ dtk])] X' _ hD.symm ⟨dtk,rfl⟩ (M.mono g' (Nat.le_succ _)) ((S.dropAt (p:=(fr,_)) (by walk_at "k")).perm (by walk_at "d"))
 walk_at "g"
 refine ⟨fun e3=>?_,fun e3=>?_⟩
 ·have e3:deed=3:=by simpa using e3
  subst e3
  walk_at "g"
  refine M.m_get g ‹_› (fun p hp=>List.mem_append_left _ hp) ?_
  refine To.K keep981 ?_
  walk_at "g"
  refine x_neg ‹_› fun dtk s S=>?_
  refine Ev.nil ⟨⟨_,S⟩,M.get g hB ok' S (fun p hp hk he X' vt' s g' S=>?_) (fun hno X' s g' S=>?_)⟩
  ·have hD:=dueQ_there (room:=M.room) (last:=M.last) (val:=val) (deed:=3) (by decide) (by decide) (by decide) (M.nodup g) hp hk he
   walk_at "g"
   rename_i b s S
   exact h b _ _ [(b,LiP [.int p.v vt'])] X' _ hD.symm ⟨vt',rfl⟩ (M.mono g' (Nat.le_succ _)) ((S.dropAt (p:=(fr,_)) (by walk_at "k")).perm (by walk_at "d"))
  ·have hD:=dueQ_not (room:=M.room) (last:=M.last) (val:=val) (deed:=3) (by decide) (by decide) (by decide) hno
   walk_at "g"
   rename_i b s S
   exact h b _ _ [(b,LiP [.int _ dtk])] X' _ hD.symm ⟨dtk,rfl⟩ (M.mono g' (Nat.le_succ _)) ((S.dropAt (p:=(fr,_)) (by walk_at "k")).perm (by walk_at "d"))
 walk_at "g"
 refine ⟨fun e4=>?_,fun e4=>?_⟩
 ·have e4:deed=4:=by simpa using e4
  subst e4
  walk_at "g"
  refine M.m_setdef g ‹_› (fun p hp=>List.mem_append_left _ hp) ?_
  refine To.K keep995 ?_
  walk_at "g"
  rename_i s S _
  refine ⟨⟨_,S⟩,M.setdef g hB ok' S (fun p hp hk he X' vt' s g' S=>?_) (fun hno hl X' s g' S=>?_) (fun hno hl hr X' e s g' W=>?_) (fun hno hl hr X' s g' S=>?_)⟩
  ·have hD:=dueQ_there (room:=M.room) (last:=M.last) (val:=val) (deed:=4) (by decide) (by decide) (by decide) (M.nodup g) hp hk he
   walk_at "g"
   rename_i b s S
   exact h b _ _ [(b,LiP [.int p.v vt'])] X' _ hD.symm ⟨vt',rfl⟩ (M.mono g' (Nat.le_succ _)) ((S.dropAt (p:=(fr,_)) (by walk_at "k")).perm (by walk_at "d"))
  all_goals have hD:=dueQ_not (room:=M.room) (last:=M.last) (val:=val) (deed:=4) (by decide) (by decide) (by decide) hno
  all_goals rw [if_pos rfl] at hD
  ·rw [putA,if_pos hl] at hD
   walk_at "g"
   rename_i b s S
   exact h b _ _ [(b,LiP [.int val vt])] X' _ hD.symm ⟨vt,rfl⟩ (M.mono g' (Nat.le_succ _)) ((S.dropAt (p:=(fr,_)) (by walk_at "k")).perm (by walk_at "d"))
  ·rw [putA,if_neg (by lia),if_pos hr] at hD
   refine deed_refused W (sk (by walk_at "m") fun p hp=>by walk_at "m") fun b tk s S=>?_
   exact h b _ _ [(b,LiP _)] X' _ hD.symm ⟨tk,rfl⟩ (M.mono g' (Nat.le_succ _)) ((S.dropAt (p:=(fr,_)) (by walk_at "k")).perm (by walk_at "d"))
  ·rw [putA,if_neg (by lia),if_neg (by lia)] at hD
   walk_at "g"
   rename_i b s S
   exact h b _ _ [(b,LiP [.int val vt])] X' _ hD.symm ⟨vt,rfl⟩ g' ((S.dropAt (p:=(fr,_)) (by walk_at "k")).perm (by walk_at "d"))
 walk_at "g"
 refine ⟨fun e5=>?_,fun e5=>?_⟩
 ·have e5:deed=5:=by simpa using e5
  subst e5
  have hD:=dueQ_5 (room:=M.room) (last:=M.last) (now:=t+K.step) (key:=key) (val:=val) (ps:=ps)
  walk_at "g"
  refine M.m_popitem g ‹_› (fun p hp=>List.mem_append_left _ hp) ?_
  refine To.K M.keep_pi ?_
  walk_at "g"
  rename_i s S _
  refine ⟨⟨_,S⟩,M.popitem g hB ok' S (fun hl X' e x2 s g' W=>?_) (fun p rest hl X' x kt' vt' s g' S=>?_)⟩
  ·rw [hl] at hD
   refine deed_missing W (sk (by walk_at "m") fun p hp=>by walk_at "m") fun b tk s S=>?_
   exact h b _ _ [(b,LiP _)] X' _ hD.symm ⟨tk,rfl⟩ (M.mono g' (Nat.le_succ _)) ((S.dropAt (p:=(fr,_)) (by walk_at "k")).perm (by walk_at "d"))
  ·rw [hl] at hD
   walk_at "g"
   rename_i b s S
   exact h b _ _ [(b,LiP [.ref x]),(x,TuP [.int p.k kt',.int p.v vt'])] X' _ hD.symm ⟨[(x,p.k,kt',p.v,vt')],rfl,rfl⟩ (M.mono g' (Nat.le_succ _)) ((S.dropAt (p:=(fr,_)) (by walk_at "k")).perm (by walk_at "d"))
 have h6:deed=6:=by
  have:¬ deed<2:=by simpa using e1
  have:deed≠2:=by simpa using e2
  have:deed≠3:=by simpa using e3
  have:deed≠4:=by simpa using e4
  have:deed≠5:=by simpa using e5
  lia
 subst h6
 have hD:=dueQ_6 (room:=M.room) (last:=M.last) (now:=t+K.step) (key:=key) (val:=val) (ps:=ps)
 walk_at "g"
 have tz:∀ {ts:List Tp},(pairsOf ts).length=ts.length:=fun {ts}=>by unfold pairsOf; rw [List.length_map]
 have dz:((deadP (t+K.step) ps).map kv).length≤4:=by
  rw [List.length_map]
  exact Nat.le_trans (List.length_filter_le _ _) hz
 refine x_pairsG (kx:=96) (cl:=[]) (fun _=>true) ix96 (by decide) (by rfl) (by decide) (by rfl) (by decide) (by rfl) (fun _=>rfl) ok'.handled (fun C=>by rfl) ?_
 walk_at "g"
 refine M.m_expire g ‹_› (fun p hp=>List.mem_append_left _ hp) ?_
 refine To.K M.keep_ex ?_
 walk_at "g"
 rename_i s S _
 refine ⟨⟨_,S⟩,M.expire g hB ok' S fun X' x ts s pm g' S=>?_⟩
 have lts:ts.length≤4:=by have:=pm.length_eq; rw [tz] at this; lia
 refine Ret.ok ⟨x,ts.map toSr,pairCells ts++(X'++(K.G (t+K.step) (m+1)++((fr,Nm (deedFr M.ca 6 key val dt kt vt))::L))),rfl,by rw [List.length_map]; lia,fun w hw=>?_,fun w hw=>?_,?_,?_,?_⟩
 ·obtain ⟨r,_,rfl⟩:=List.mem_map.mp hw
  exact Nat.zero_le _
 ·obtain ⟨r,hr,rfl⟩:=List.mem_map.mp hw
  exact List.mem_append_left _ (pair_mem hr)
 ·rw [toSr_refs]; exact S
 ·intro w hw a C I D ys i Y s' E' Q' S hQ
  exact Tst.nil (hQ _ S)
 ·intro a D us s' hp S
  rw [List.filter_eq_self.mpr fun _ _=>rfl,toSr_pairs] at hp
  have S:=S.dropAt (p:=(a,_)) (by walk_at "k")
  have hnk:(us.map (·.2.1)).Nodup:=by
   rw [keys_pairs,hp]
   exact (pm.map (·.1)).nodup_iff.mpr (dead_keys (M.nodup g))
  have hul:us.length≤4:=by rw [← tz,hp,tz]; exact lts
  refine Ev.nil ?_
  have S:St c ((fr,Nm (deedFr M.ca 6 key val dt kt vt))::(D,LiP (pairRefs us))::(pairCells us++(X'++(K.G (t+K.step) (m+1)++L)))) s':=by
   have S:St c ((D,LiP (pairRefs us))::(pairCells us++(pairCells ts++(X'++(K.G (t+K.step) (m+1)++((fr,Nm (deedFr M.ca 6 key val dt kt vt))::L)))))) s':=S
   have S:=(S.pickG (G:=pairCells ts) (by walk_at "K")).dropG
   exact S.perm (by walk_at "d")
  refine l_sorted S (.head _) (fun p hp=>.tail _ (List.mem_append_left _ hp)) hnk hul fun D2 vs s qm srt S=>?_
  walk_at "g"
  have S:=S.dropAt (p:=(fr,_)) (by walk_at "k")
  have S:=S.dropAt (p:=(D,_)) (by walk_at "k")
  have pp:=pairs_perm qm
  have e1:pairsOf vs=sortP ((deadP (t+K.step) ps).map kv):=sortP_eq (pp.1.trans (by rw [hp]; exact pm)) (by rw [← keys_pairs]; exact srt)
  refine h D2 _ _ ((D2,LiP (pairRefs vs))::pairCells vs) X' _ hD.symm ⟨vs,e1,rfl⟩ (M.mono g' (Nat.le_succ _)) ?_
  have S:St c ((D2,LiP (pairRefs vs))::(pairCells us++(X'++(K.G (t+K.step) (m+1)++L)))) _:=S.perm (by walk_at "d")
  exact S.perm ((pp.2.append_right _).cons _)
end
end
section
section
variable {env:Env}{v:Value}{name:Str}{C x dx f:Addr}{tab:List (Nat × AK)}{k:Nat}{l:List (Nat × Value)}
noncomputable def smOk (K:Frag) (C:Addr) (n:Str) (f p:Addr) (r:List Value):Bool:=noGA K C && hasDictIn K C && decide (findIn K (.ref C) n=some (some (.ref p))) && decide (specialIn K (.ref p) "__get__" = some (some (.builtin "staticmethod.__get__"))) && decide (takesIn K (.ref p)=some false) && decide (recIn K p "staticmethod" = some (.ref f::r)) && !copiedNames.contains n
theorem g_sm {p:Addr}{r:List Value}{ex:Bool}{Q:Value→Shared→Prop} (S:St c L s) (hx:(x,InstP C dx)∈L) (H:Cls C tab) (hd:(dx,Dm l)∈L) (hn:N[k]? = some name) (hv:l.lookup k=none)
  (hc:∀ P,smOk (Mine.K P) C name f p r=true) (h:∀ s',St c L s'→Q (.ref f) s'):wpAny c.M A (getAttr (.ref x) name ex) Q E s:=by
 have hc:=hc c.P
 have hg:=H.ga c.P
 unfold okGA at hg
 unfold smOk noGA at hc
 simp only [Bool.and_eq_true,decide_eq_true_eq,Bool.not_eq_true'] at hc hg
 obtain ⟨⟨⟨⟨⟨⟨h1,h2⟩,z⟩,h5⟩,h6⟩,zz⟩,h4⟩:=hc
 obtain ⟨o,e,rfl⟩:=S.get hx
 obtain ⟨od,e',q⟩:=S.get hd
 have S':St c L ⟨s.heap,s.gens,s.drawn,s.toks+1,s.os⟩:=S.like rfl rfl
 exact get_bind (od:=some od) S.K ⟨e,rfl,rfl,e'⟩ hg.1.1 (findObj_fn h2 z h5 h6 h4 (by rw [lookIn_nm q.nm hn,hv])) h1 (wpAny_call (sm_get (s:={ s with toks:=s.toks+1 }) S'.K zz (handed_on rfl (h _ S'))))
theorem c_sm {mc:Value}{p:Addr}{r:List Value}{ex:Bool}{Q:Value→Shared→Prop} (S:St c L s) (h1:∀ P,readsIn (Mine.K P) C mc=true) (z:∀ P,findCls (Mine.K P) (.ref C) mc name=some (.get (.builtin "staticmethod.__get__") (.ref p) .none (.ref C)))
  (zz:∀ P,recIn (Mine.K P) p "staticmethod" = some (.ref f::r)) (h:∀ s',St c L s'→Q (.ref f) s'):wpAny c.M A (getAttr (.ref C) name ex) Q E s:=by
 have S':St c L ⟨s.heap,s.gens,s.drawn,s.toks+1,s.os⟩:=S.like rfl rfl
 exact cls_bind S.K (h1 _) (z _) (wpAny_call (sm_get (s:={ s with toks:=s.toks+1 }) S'.K (zz _) (handed_on rfl (h _ S'))))
theorem x_dict0 {pos:Pos}{Q:Value→Shared→Prop} (S:St c L s) (h:∀ d s',St c ((d,DI c [])::L) s'→Q (.ref d) s'):wpAny c.M A (eval (.Dict [] [] pos) env) Q E s:=by
 refine wpAny_Dict_empty (h _ _ (S.push _ rfl ?_))
 obtain ⟨o,ho,hd⟩:=Heap.dictOf_iff.mp (Heap.DictOf.new (knd:=intKind pw c.w) s.heap)
 rw [Heap.get?_push_size _ rfl] at ho
 exact (Option.some.inj ho) ▸ hd
theorem sm1155 (P:Params):smOk (Mine.K P) 1155 "getsizeof" 859 861 [.bool false]=true:=by kernel_rfl!
theorem sm1373 (P:Params):smOk (Mine.K P) 1373 "getsizeof" 859 861 [.bool false]=true:=by kernel_rfl!
theorem rs865 (P:Params):readsIn (Mine.K P) 865 (.ref 124)=true:=by kernel_rfl!
theorem cs865 (P:Params):findCls (Mine.K P) (.ref 865) (.ref 124) "getsizeof" = some (.get (.builtin "staticmethod.__get__") (.ref 861) .none (.ref 865)):=by kernel_rfl!
theorem st861 (P:Params):recIn (Mine.K P) 861 "staticmethod" = some (.ref 859::[.bool false]):=by kernel_rfl!
theorem mcInit865 (P:Params):mcOk (Mine.K P) 865 (.ref 124) "__init__" (.ref 749)=true:=by kernel_rfl!
theorem mcInit1013 (P:Params):mcOk (Mine.K P) 1013 (.ref 124) "__init__" (.ref 941)=true:=by kernel_rfl!
theorem mcTimer1013 (P:Params):mcOk (Mine.K P) 1013 (.ref 124) "_Timer" (.ref 929)=true:=by kernel_rfl!
theorem keep749 (P:Params):keepIn (Mine.K P) (.ref 749)=true:=by kernel_rfl!
theorem keep941 (P:Params):keepIn (Mine.K P) (.ref 941)=true:=by kernel_rfl!
theorem keepC929 (P:Params):keepIn (Mine.K P) (.ref 929)=true:=by kernel_rfl!
theorem keepC1155 (P:Params):keepIn (Mine.K P) (.ref 1155)=true:=by kernel_rfl!
theorem keepC1373 (P:Params):keepIn (Mine.K P) (.ref 1373)=true:=by kernel_rfl!
theorem make929 (P:Params):makeOk (Mine.K P) 929 891=true:=by kernel_rfl!
theorem make1155 (P:Params):makeOk (Mine.K P) 1155 1077=true:=by kernel_rfl!
theorem make1373 (P:Params):makeOk (Mine.K P) 1373 1296=true:=by kernel_rfl!
theorem timer_make {clk:Addr} (S:St c L s) (hr:A.depth+1<recursionLimit)
  (h:∀ tm td s',St c ((tm,InstP 929 td)::(td,Tm0 clk)::L) s'→R (.ok (.ret (.ref tm))) s') :
  codeAny c.M A (.call (.ref 929) ⟨[.ref clk],[]⟩) R s:=by
 refine c_make S make929 fun x dx s S=>?_
 refine f_call fn891 [(1,.ref x),(30,.ref clk)] S hr (by rfl) (by kernel_rfl!) (by kernel_rfl!) ?_
 intro fr s S
 have F:=fn891
 walk_at "g"
 rename_i tk s S
 refine InitBack.ok (h x dx _ ?_)
 have S:=(S.dropAt (p:=(fr,_)) (by walk_at "k")).perm (L':=(x,InstP 929 dx)::(dx,Dm [(31,.ref clk),(32,.int 0 _)])::L) (by exact ixd [0,0] rfl)
 exact S.weak (.there .here) fun o q=>⟨(_,none),q⟩

theorem init749_1155 {room:Int}{rt:Tok} (S:St c ((x,InstP 1155 dx)::(dx,Dm [])::L) s) (hr:A.depth<recursionLimit) (h0:0≤room)
  (h:∀ d tk s',St c ((x,InstP 1155 dx)::(dx,Dm [(4,.ref d),(5,.int 0 tk),(6,.int room rt)])::(d,DI c [])::L) s'→R (.ok (.ret .none)) s') :
  codeAny c.M A (.call (.ref 749) ⟨[.ref x,.int room rt,.none],[]⟩) R s:=by
 refine f_call fn749 [(1,.ref x),(2,.int room rt),(3,.none)] S hr (by rfl) (by kernel_rfl!) (by kernel_rfl!) ?_
 intro fr s S
 have F:=fn749
 walk_at "g"
 rw [decide_eq_false (Int.not_lt.mpr h0)]
 walk_at "g"
 refine g_sm ‹_› (by walk_at "m") cls1155 (by walk_at "m") ix3 rfl sm1155 fun s S=>?_
 walk_at "g"
 refine c_sm S rs865 cs865 st861 fun s S=>?_
 walk_at "g"
 refine wpAny_isNot_ref_self ?_
 walk_at "g"
 refine x_dict0 S fun d s S=>?_
 walk_at "g"
 rename_i S
 exact h d _ _ ((S.dropAt (p:=(fr,_)) (by walk_at "k")).perm (by exact ixd [1,1] rfl))
theorem init941_1155 {clk:Addr}{room:Int}{rt:Tok} (S:St c ((x,InstP 1155 dx)::(dx,Dm [])::L) s) (hr:A.depth+2<recursionLimit) (h0:0≤room)
  (h:∀ d tk tm td s',St c ((x,InstP 1155 dx)::(dx,Dm [(4,.ref d),(5,.int 0 tk),(6,.int room rt),(39,.ref tm)])::(d,DI c [])::(tm,InstP 929 td)::(td,Tm0 clk)::L) s'→R (.ok (.ret .none)) s') :
  codeAny c.M A (.call (.ref 941) ⟨[.ref x,.int room rt,.ref clk,.none],[]⟩) R s:=by
 refine f_call fn941 [(1,.ref x),(2,.int room rt),(30,.ref clk),(3,.none)] S (by lia) (by rfl) (by kernel_rfl!) (by kernel_rfl!) ?_
 intro fr s S
 have F:=fn941
 walk_at "g"
 refine m_cls S mcInit865 fun s S=>?_
 refine To.K keep749 ?_
 walk_at "g"
 refine ⟨⟨_,S⟩,init749_1155 (S.perm (L':=(x,InstP 1155 dx)::(dx,Dm [])::(fr,Nm [(3,.none),(30,.ref clk),(2,.int room rt),(1,.ref x)])::L) (by exact ixd [1,1,0] rfl)) (by rw [depth_deeper]; lia) h0 fun d tk s S=>?_⟩
 walk_at "g"
 refine m_cls S mcTimer1013 fun s S=>?_
 refine To.K keepC929 ?_
 walk_at "g"
 refine ⟨⟨_,S⟩,timer_make S (by rw [depth_deeper]; lia) fun tm td s S=>?_⟩
 walk_at "g"
 rename_i S
 exact h d _ tm td _ ((S.dropAt (p:=(fr,_)) (by walk_at "k")).perm (by exact ixd [2,2,2] rfl))

theorem init749_1373 {room:Int}{rt:Tok} (S:St c ((x,InstP 1373 dx)::(dx,Dm [])::L) s) (hr:A.depth<recursionLimit) (h0:0≤room)
  (h:∀ d tk s',St c ((x,InstP 1373 dx)::(dx,Dm [(4,.ref d),(5,.int 0 tk),(6,.int room rt)])::(d,DI c [])::L) s'→R (.ok (.ret .none)) s') :
  codeAny c.M A (.call (.ref 749) ⟨[.ref x,.int room rt,.none],[]⟩) R s:=by
 refine f_call fn749 [(1,.ref x),(2,.int room rt),(3,.none)] S hr (by rfl) (by kernel_rfl!) (by kernel_rfl!) ?_
 intro fr s S
 have F:=fn749
 walk_at "g"
 rw [decide_eq_false (Int.not_lt.mpr h0)]
 walk_at "g"
 refine g_sm ‹_› (by walk_at "m") cls1373 (by walk_at "m") ix3 rfl sm1373 fun s S=>?_
 walk_at "g"
 refine c_sm S rs865 cs865 st861 fun s S=>?_
 walk_at "g"
 refine wpAny_isNot_ref_self ?_
 walk_at "g"
 refine x_dict0 S fun d s S=>?_
 walk_at "g"
 rename_i S
 exact h d _ _ ((S.dropAt (p:=(fr,_)) (by walk_at "k")).perm (by exact ixd [1,1] rfl))
theorem init941_1373 {clk:Addr}{room:Int}{rt:Tok} (S:St c ((x,InstP 1373 dx)::(dx,Dm [])::L) s) (hr:A.depth+2<recursionLimit) (h0:0≤room)
  (h:∀ d tk tm td s',St c ((x,InstP 1373 dx)::(dx,Dm [(4,.ref d),(5,.int 0 tk),(6,.int room rt),(39,.ref tm)])::(d,DI c [])::(tm,InstP 929 td)::(td,Tm0 clk)::L) s'→R (.ok (.ret .none)) s') :
  codeAny c.M A (.call (.ref 941) ⟨[.ref x,.int room rt,.ref clk,.none],[]⟩) R s:=by
 refine f_call fn941 [(1,.ref x),(2,.int room rt),(30,.ref clk),(3,.none)] S (by lia) (by rfl) (by kernel_rfl!) (by kernel_rfl!) ?_
 intro fr s S
 have F:=fn941
 walk_at "g"
 refine m_cls S mcInit865 fun s S=>?_
 refine To.K keep749 ?_
 walk_at "g"
 refine ⟨⟨_,S⟩,init749_1373 (S.perm (L':=(x,InstP 1373 dx)::(dx,Dm [])::(fr,Nm [(3,.none),(30,.ref clk),(2,.int room rt),(1,.ref x)])::L) (by exact ixd [1,1,0] rfl)) (by rw [depth_deeper]; lia) h0 fun d tk s S=>?_⟩
 walk_at "g"
 refine m_cls S mcTimer1013 fun s S=>?_
 refine To.K keepC929 ?_
 walk_at "g"
 refine ⟨⟨_,S⟩,timer_make S (by rw [depth_deeper]; lia) fun tm td s S=>?_⟩
 walk_at "g"
 rename_i S
 exact h d _ tm td _ ((S.dropAt (p:=(fr,_)) (by walk_at "k")).perm (by exact ixd [2,2,2] rfl))

end
end
section
section

noncomputable def make_ttl_P (K:Ck c) (t m room last:Int) (rt lt:Tok):Prop:=∀ (S:St c (K.G t m++L) s) (hr:A.depth+6<recursionLimit) (h0:0≤room) (hsm:room≤100) (hlast:0<last) (hstep:0≤K.step) (h:∀ (M:Mem c K) X s',M.room=room→M.last=last→M.G [] t 0 X→St c (X++(K.G t m++L)) s'→R (.ok (.ret (.ref M.ca))) s'),codeAny c.M A (.call (.ref 1155) ⟨[.int room rt,.int last lt,.ref K.clk],[]⟩) R s
theorem make_ttl {K:Ck c}{t m room last:Int}{rt lt:Tok}:@make_ttl_P c L s A R K t m room last rt lt:=by
 revert c L s A R K t m room last rt lt
 walk_at "e5"; intro c L s A R
 walk_at "e5"; intro K t m room last
 walk_at "e2"; intro rt lt
 intro S hr h0 hsm hlast hstep h
 refine c_make S make1155 fun x dx s S=>?_
 refine f_call fn1077 [(1,.ref x),(2,.int room rt),(51,.int last lt),(30,.ref K.clk),(3,.none)] S (by rw [mk1_depth]; lia) (by rfl) (by kernel_rfl!) (by kernel_rfl!) ?_
 intro fr s S
 have F:=fn1077
 walk_at "g"
 refine m_cls S mcInit1013 fun s S=>?_
 refine To.K keep941 ?_
 walk_at "g"
 have S:St c ((x,InstP 1155 dx)::(dx,Dm [])::(fr,Nm [(3,.none),(30,.ref K.clk),(51,.int last lt),(2,.int room rt),(1,.ref x)])::(K.G t m++L)) s:=S.perm (by exact ixd [1,1,0] rfl)
 refine ⟨⟨_,S⟩,init941_1155 S (by rw [depth_deeper,mk1_depth]; lia) h0 fun d tk tm td s S=>?_⟩
 walk_at "g"
 refine m_cls S mc1063 fun s S=>?_
 refine To.K keepC1063 ?_
 walk_at "g"
 refine ⟨⟨_,S⟩,T_link0 S (by rw [depth_deeper,mk1_depth]; lia) fun ra rd s S=>?_⟩
 walk_at "g"
 rename_i s S
 refine x_dict0 S fun lk s S=>?_
 walk_at "g"
 rename_i s S
 have S:=S.dropAt (p:=(fr,_)) (by walk_at "k")
 let q:TCfg c:=⟨K,x,dx,d,lk,tm,td,⟨ra,rd,.none,.none⟩,room,rt,last,lt⟩
 have u:TI t last [] [] [] [] 0:=⟨rfl,.nil,.nil,.nil,.nil,rfl,fun _ h=>nomatch h⟩
 refine InitBack.ok (h (TMem q hlast hstep hsm) (TX q [] [] [] 0 tk) _ rfl rfl ⟨TX.g (q:=q) (rs:=[]) (xs:=[]) rfl u (by simp; lia) (fun _ h=>nomatch h)⟩ ?_)
 exact S.perm (L':=(x,InstP 1155 dx)::(dx,Dm (q.D (.int 0 tk)))::(d,DI c [])::(lk,DI c [])::(tm,InstP 929 td)::(td,Tm0 K.clk)::(ra,Lk rd .none .none ra ra)::(rd,Dm [])::(K.G t m++L)) (by exact ixd [3,3,3,0,2,2,0] rfl)
theorem make_tlru {K:Ck c}{U:Un c}{t m room:Int}{rt:Tok} (S:St c (K.G t m++(U.G++L)) s) (hr:A.depth+6<recursionLimit) (h0:0≤room)
  (h:∀ (M:Mem c K) X s',M.room=room→M.last=U.last→M.hold=U.G→M.G [] t 0 X→St c (X++(K.G t m++L)) s'→R (.ok (.ret (.ref M.ca))) s') :
  codeAny c.M A (.call (.ref 1373) ⟨[.int room rt,.ref U.fn,.ref K.clk],[]⟩) R s:=by
 refine c_make S make1373 fun x dx s S=>?_
 refine f_call fn1296 [(1,.ref x),(2,.int room rt),(75,.ref U.fn),(30,.ref K.clk),(3,.none)] S (by rw [mk1_depth]; lia) (by rfl) (by kernel_rfl!) (by kernel_rfl!) ?_
 intro fr s S
 have F:=fn1296
 walk_at "g"
 refine m_cls S mcInit1013 fun s S=>?_
 refine To.K keep941 ?_
 walk_at "g"
 have S:St c ((x,InstP 1373 dx)::(dx,Dm [])::(fr,Nm [(3,.none),(30,.ref K.clk),(75,.ref U.fn),(2,.int room rt),(1,.ref x)])::(K.G t m++(U.G++L))) s:=S.perm (by exact ixd [1,1,0] rfl)
 refine ⟨⟨_,S⟩,init941_1373 S (by rw [depth_deeper,mk1_depth]; lia) h0 fun d tk tm td s S=>?_⟩
 walk_at "g"
 rename_i s S
 refine x_dict0 S fun it s S=>?_
 walk_at "g"
 rename_i od _ _ _ _ s S
 have S:=S.dropAt (p:=(fr,_)) (by walk_at "k")
 let q:UCfg c:=⟨K,U,x,dx,d,it,tm,td,room,rt⟩
 have u:UI [] [] [] [] 0:=⟨rfl,.nil,.nil,.nil,fun i h1 h=>absurd h (Nat.not_lt_zero _),rfl⟩
 refine InitBack.ok (h (UMem q) (UX q od [] [] [] 0 tk) _ rfl rfl rfl ⟨UX.g (q:=q) (od:=od) (rs:=[]) u (Nat.le_refl 0) (by simp; lia) (fun _=>rfl) (fun _ h=>nomatch h)⟩ ?_)
 exact S.perm (L':=(x,InstP 1373 dx)::(dx,Dm (q.D (.int 0 tk) od))::(d,DI c [])::(it,DI c [])::(tm,InstP 929 td)::(td,Tm0 K.clk)::(od,LiP (irefs []))::(itCells []++U.G)++(K.G t m++L)) (by simp only [itCells,List.nil_append,List.cons_append]; walk_at "d")
end
end
section
noncomputable def CoP (qual:Str) (o:Obj):Prop:=∃ (vs:Array Value) (t:Tok),o.data=.fields vs∧vs[1]? = some (.str qual t)
structure Nst (c:Cx) (cd P:Addr):Prop where
 code:CodeHd c.h₀ cd P
 bi:c.h₀.BuiltinsAt c.mg P
 gP:mainGlobals≠P
section
variable {env:Env}{cd P:Addr}{ps:Array Value}{clos:List (Str × Addr)}{name qual:Str}{params:Arguments}{body:List Stmt}{scope:Scope}{pos:Pos}{firstLine:Nat}
theorem Nst.keepk (n:Nst c cd P) (k:List (Addr × Obj)):Nst { c with k:=k } cd P:=⟨n.code,n.bi,n.gP⟩
theorem x_make {Q:Value→Shared→Prop} (S:St c L s) (hk:c.k=[(P,tabObj ps)]) (n:Nst c cd P) (hg:env.globals=mainGlobals) (hcode:env.code=.ref cd) (ht:TriplesOk ps.toList) (hnf:codeAmong pos ps.toList=none) (hcl:closureFor scope env=pure clos)
  (h:∀ f c' ctv doc pm s',St { c with k:=[(P,tabObj (ps++#[rawInt pos.line,rawInt pos.col,.ref c']))] } ((f,(· = fnMade name qual params body scope clos doc pm c' ctv))::(c',CoP qual)::L) s'→Q (.ref f) s') :
  wpAny c.M A (makeFunction name qual params (.stmts body) scope env [] [] [] pos firstLine) Q E s:=by
 have hP:(P,tabObj ps)∈c.k:=by rw [hk]; exact .head _
 have hb:s.heap.BuiltinsAt c.mg P:=by
  obtain ⟨bm,o,b1,b2,b3,b4,b5,b6⟩:=n.bi
  exact ⟨bm,o,b1,b2,b3,b4,S.base _ _ b5,b6⟩
 refine makeFunction_K (mg:=c.mg) hcl hg S.g hcode (n.code.keeps S.base) (S.kept _ hP) ht hnf n.gP hb fun c' ctv doc h' tk hx hge hlt hrec htb=>?_
 obtain ⟨c₂,oc,vs,t,e2,hoc,hd,hv⟩:=hrec
 cases e2
 have hP0:c.h₀.get? P=none:=S.ok.kn _ hP
 have nP:∀ b o,c.h₀.get? b=some o→b≠P:=fun b o e z=>by rw [z,hP0] at e; cases e
 have nL:∀ p∈L,p.1≠P:=fun p hp z=>S.apK p hp (by rw [hk]; exact z ▸ .head _)
 have hPs:P<s.heap.objs.size:=Heap.lt_size (S.kept _ hP)
 have S1:St { c with k:=[(P,tabObj (ps++#[rawInt pos.line,rawInt pos.col,.ref c']))] } ((c',CoP qual)::L) ⟨h',s.gens,s.drawn,tk,s.os⟩:=by
  refine ⟨⟨S.ok.K,S.ok.g,S.ok.b,S.ok.lim,S.ok.bi,fun p hp=>?_,List.pairwise_singleton _ _⟩,fun b o e=>hx b o (nP b o e) (S.base b o e),fun p hp=>?_,fun p hp=>?_,?_,S.gens,fun p hp=>?_,?_,fun p hp=>?_,fun p hp=>?_,S.os⟩
  ·rw [List.mem_singleton] at hp; subst hp; exact hP0
  ·rcases List.mem_cons.mp hp with rfl | hp
   ·exact ⟨oc,hoc,vs,t,hd,hv⟩
   ·obtain ⟨o,e,q⟩:=S.cells p hp
    exact ⟨o,hx _ _ (nL p hp) e,q⟩
  ·rcases List.mem_cons.mp hp with rfl | hp
   ·exact Heap.get?_none_of_le (Nat.le_trans S.size hge)
   ·exact S.apart p hp
  ·rw [List.map_cons,List.nodup_cons]
   refine ⟨fun hm=>?_,S.nodup⟩
   obtain ⟨p,hp,e⟩:=List.mem_map.mp hm
   exact absurd (S.lt hp) (Nat.not_lt.mpr (e ▸ hge))
  ·rcases List.mem_cons.mp hp with rfl | hp
   ·exact Nat.le_trans S.size hge
   ·exact S.low p hp
  ·exact Nat.le_trans S.size (Nat.le_trans hge (Nat.le_of_lt hlt))
  ·rw [List.mem_singleton] at hp; subst hp; exact htb
  ·rcases List.mem_cons.mp hp with rfl | hp
   ·intro hm
    rw [List.map_singleton,List.mem_singleton] at hm
    exact absurd (Nat.lt_of_lt_of_le hPs hge) (by rw [show c'=P from hm]; exact Nat.lt_irrefl _)
   ·intro hm
    rw [List.map_singleton,List.mem_singleton] at hm
    exact nL p hp hm
 exact h h'.objs.size c' ctv doc _ _ (S1.push (fnMade name qual params body scope clos doc ((c.mg "__name__").getD .none) c' ctv) rfl (P:=(· = fnMade name qual params body scope clos doc ((c.mg "__name__").getD .none) c' ctv)) rfl (d:=s.drawn) (t:=tk) (os:=s.os))
theorem f_callN {f c':Addr}{fd:FuncData}{o:Obj}{args:Args} (binds:List (Nat × Value)) (tbl:List (Nat × NameKind)) (S:St c L s) (hm:(f,(· = o))∈L) (ho:o.data=.func fd) (hq:(c',CoP fd.qualname)∈L) (hcode:fd.code=.ref c') (hroom:A.depth<recursionLimit) (hbody:fd.body=.stmts body)
  (hb:bindArgs fd args=pure (binds.map fun p=>(nmv p.1,p.2))) (hco:fd.scope.isCoroutine=false) (hgen:fd.scope.isGenerator=false) (hkind:fd.scope.kind=.function)
  (hnames:fd.scope.names=tbl.map fun p=>(nmv p.1,p.2)) (hsmall:tbl.all (fun p=>decide (p.1<N.length))=true) (hnc:(fd.scope.names.all fun x=>x.2 != .cell)=true)
  (hloc:(binds.all fun p=>decide (p.1<N.length) && decide (tbl.lookup p.1=some .local))=true)
  (h:∀ fr s',St c ((fr,Nm binds.reverse)::L) s'→wpAny c.M (A.deeper (envF f fd fr)) (execs body (envF f fd fr)) (Back R) (Fly c A (envF f fd fr) R) s') :
  codeAny c.M A (.call (.ref f) args) R s:=by
 obtain ⟨o',e,rfl⟩:=S.get hm
 obtain ⟨oc,e2,vs,t,hd,hv⟩:=S.get hq
 refine codeAny_call_function hroom e ho hco hgen hbody ⟨c',oc,vs,t,hcode,e2,hd,hv⟩ ?_
 rw [hb]
 refine wpAny_pure ?_
 refine wpAny_newFunctionEnv (fun x hx e=>?_) ?_ (fun h' hn hs=>?_) hkind
 ·have:=List.all_eq_true.mp hnc x hx
  rw [e] at this; cases this
 ·refine PyProof.Rows.locs ?_
  rw [List.all_eq_true] at hloc ⊢
  intro x hx
  obtain ⟨p,hp,rfl⟩:=List.mem_map.mp hx
  have:=hloc p hp
  rw [Bool.and_eq_true] at this
  rw [hnames]
  dsimp only
  rw [lookup_names hsmall (nmv_ok (of_decide_eq_true this.1))]
  exact this.2
 ·have S':=S.grow (s':=⟨h',s.gens,s.drawn,s.toks+(binds.map (fun p=>(nmv p.1,p.2))).length,s.os⟩) hs (nsP_of hn) rfl
  refine ⟨S'.lim,codeAny_func (h _ _ (S'.change .here (Heap.SameBut.refl _ _) ?_ rfl))⟩
  obtain ⟨o,e,q⟩:=S'.get (.head _)
  refine ⟨o,e,_,q,fun k x hk=>?_⟩
  have hsm:binds.reverse.all (fun p=>decide (p.1<N.length))=true:=by
   rw [List.all_eq_true] at hloc ⊢
   intro p hp
   have:=hloc p (List.mem_reverse.mp hp)
   rw [Bool.and_eq_true] at this
   exact this.1
  rw [← List.map_reverse,lookup_names hsm hk]
theorem e_locN {f fr:Addr}{fd:FuncData}{x:Str}{k:Nat}{v:Value}{l:List (Nat × Value)}{pos:Pos}{Q:Value→Shared→Prop} (S:St c L s) (hm:(fr,Nm l)∈L) (hk:fd.scope.kind=.function) (hl:(envF f fd fr).kindOf x=some .local) (hx:N[k]? = some x) (hd:k≠0)
  (hv:l.lookup k=some v) (h:Q v s):wpAny c.M A (eval (.Name x pos) (envF f fd fr)) Q E s:=by
 obtain ⟨o,e,m,h1,h2⟩:=S.get hm
 obtain ⟨es,ep,q1,q2,q3⟩:=h1
 refine wpAny_Name (wpAny_loadName_local hk hl ⟨o,es,ep,e,q1,q2,q3⟩ ((h2 k x hx).trans hv) h) ?_
 rw [beq_eq_false_iff_ne]
 intro z
 exact hd ((N_inj hx (y := "__debug__") ix0).mp z)
theorem e_freeN {x:Str}{k:Nat}{v:Value}{a:Addr}{pos:Pos}{Q:Value→Shared→Prop} (S:St c L s) (hk:env.scope.kind=.function) (hl:env.kindOf x=some .free) (hc:env.cells.lookup x=some a) (hm:(a,CeP (some v))∈L) (hx:N[k]? = some x) (hd:k≠0)
  (h:Q v s) (hn:(x == ("__classdict__" : Str))=false:=by decide):wpAny c.M A (eval (.Name x pos) env) Q E s:=by
 refine wpAny_Name (wpAny_loadName_free hk hl hc (S.ce hm) h hn) ?_
 rw [beq_eq_false_iff_ne]
 intro z
 exact hd ((N_inj hx (y := "__debug__") ix0).mp z)
theorem l_setitem {a:Addr}{its:List Value}{i:Nat}{t:Tok}{v:Value}{Q:Unit→Shared→Prop} (S:St c L s) (hm:Rep a (LiP its) (LiP (its.set i v)) L L') (hi:i<its.length) (hz:its.length≤1000) (h:∀ s',St c L' s'→Q () s') :
  wpAny c.M A (setItem (.ref a) (.int i t) v) Q E s:=by
 obtain ⟨n,e⟩:=S.plist hm.mem
 refine ki_setAt e (Int.natCast_nonneg i) (by lia) (by rw [List.size_toArray]; lia) (h _ (S.change (s':=⟨s.heap.update a (Obj.mapSeq (·.setIfInBounds (i:Int).toNat v)),s.gens,s.drawn,s.toks,s.os⟩) hm (Heap.SameBut.update ..) ?_ rfl))
 have q:=PySem.IsL.update e (·.setIfInBounds (i:Int).toNat v)
 have e2:its.toArray.setIfInBounds (i:Int).toNat v=(its.set i v).toArray:=by
  apply Array.toList_inj.mp
  simp
 rw [e2] at q
 exact ⟨_,q,_,rfl⟩
end
end
section
section
variable {env:Env}{v:Value}{a:Addr}
theorem x_modi {m n:Int}{t u:Tok}{Q:Value→Shared→Prop} (S:St c L s) (hn:n≠0) (h:∀ tk s',St c L s'→Q (.int (m.fmod n) tk) s'):wpAny c.M A (binaryOp .Mod (.int m t) (.int n u)) Q E s :=
 PyProof.Rows.mod_int' hn (h _ _ (S.like rfl rfl))
theorem x_divi {m n:Int}{t u:Tok}{Q:Value→Shared→Prop} (S:St c L s) (hn:n≠0) (hs:n.natAbs<1073741824) (h:∀ tk s',St c L s'→Q (.int (m.fdiv n) tk) s'):wpAny c.M A (binaryOp .FloorDiv (.int m t) (.int n u)) Q E s :=
 PyProof.Rows.floordiv_int hn (h _ _ (S.like rfl rfl)) (.inl (PyProof.noPylong_small hs))
theorem x_upto {nm:Str}{n k:Nat}{np p1 p2:Pos}{xs:List Value}{Q:Value→Shared→Prop} (S:St c L s) (h1:s.heap.IsList a xs.toArray) (hz:xs.length≤1000)
  (h:∀ d s',St c ((d,LiP (xs.take k))::L) s'→Q (.ref d) s') :
  wpAny c.M A (eval (.Slice none (some (.Constant (.int (k:Int)) n p1)) none p2) env) (fun i s₂=>wpAny c.M A (subscriptTail (.Name nm np) (.Slice none (some (.Constant (.int (k:Int)) n p1)) none p2) (.ref a) i) Q E s₂) E s:=by
 refine wpAny_Slice ?_
 rw [evalPart_none]
 refine wpAny_pure ?_
 rw [evalPart_some]
 refine wpAny_Constant_int ?_
 have S2:St c L { s with toks:=s.toks+1 }:=S.like rfl rfl
 refine wpAny_pure ?_
 have S3:=S2.push { cls:=.type "slice", data:=.fields #[.none,.int k s.toks,.none] } rfl (P:=fun _=>True) trivial (d:=s.drawn) (t:=s.toks+1) (os:=s.os)
 have pl:(s.heap.push { cls:=.type "slice", data:=.fields #[.none,.int k s.toks,.none] }).IsList a xs.toArray:=by
  obtain ⟨o,e,r⟩:=h1
  exact ⟨o,Heap.get?_push_of_some _ e,r⟩
 refine subscriptTail_ops (ops:=[.ref s.heap.objs.size,.ref a]) pl.typeIs list_getitem_lookup (wpAny_getItem_list_slice pl (Heap.IsSliceOf.new ..) .none (.int k s.toks) .none (by simp) (h _ _ ?_) (by rw [List.size_toArray,sizeLine_eq]; lia)) rfl (fun _=>rfl)
 have e:=slicePick_upto' xs.toArray k
 rw [e]
 have S4:=S3.push { cls:=.type "list", data:=.seq (xs.take k).toArray } rfl (P:=LiP (xs.take k)) ⟨_,rfl⟩ (d:=s.drawn) (t:=s.toks+1) (os:=s.os)
 exact S4.dropAt (.there .here)
theorem x_for {x:Str}{px pos:Pos}{iter:Expr}{body:List Stmt}{Q:Flow→Shared→Prop} (hs:∀ v,foldedSetIterable iter env v=pure v) (hh:A.handled=none)
  (h:wpAny c.M A (eval iter env) (fun xv s₁=>∃ (a:Addr) (items:List Value) (L0:List Cell),xv=.ref a∧St c ((a,LiP items)::L0) s₁∧∃ (J:Nat→List Cell→Prop),J 0 L0∧(∀ i L1,J i L1→∃ p∈L1,True) ∧
   (∀ i v I L1 s' E',items[i]? = some v→J i L1→St c ((I,LI a (i+1))::(a,LiP items)::L1) s' →
    wpAny c.M A (storeName env x v) (fun _ s2=>wpAny c.M A (execs body env) (fun f s3=>(f=.next∨f=.cont)∧∃ L2,J (i+1) L2∧St c ((I,LI a (i+1))::(a,LiP items)::L2) s3) E' s2) E' s') ∧
   (∀ L1 s',J items.length L1→St c ((a,LiP items)::L1) s'→Q .next s')) E s) :
  wpAny c.M A (exec (.For (.Name x px) iter body [] pos) env) Q E s:=by
 refine wpAny_For (wpAny_mono h (fun xv s₁ z=>?_) fun _ _ z=>z) hs
 obtain ⟨a,items,L0,rfl,S,J,j0,jne,turn,fin⟩:=z
 refine wpAny_pyIter_list (S.plist (.head _)).isList ?_
 have S1:=S.push { cls:=.type "list_iterator", data:=.fields #[.ref a,.int 0 0] } rfl (P:=LI a 0) ⟨rfl,rfl⟩ (d:=s₁.drawn) (t:=s₁.toks) (os:=s₁.os)
 try dsimp only at S1 ⊢
 generalize s₁.heap.objs.size=I at S1 ⊢
 refine codeAny_forLoop (fun n s'=>∃ i L1,n=items.length+1-i∧i≤items.length∧J i L1∧St c ((I,LI a i)::(a,LiP items)::L1) s') (fun n s' hI=>?_) (items.length+1) ⟨0,L0,by simp,Nat.zero_le _,j0,S1⟩
 obtain ⟨i,L1,rfl,hi,hJ,S⟩:=hI
 have pl:=(S.plist (.tail _ (.head _))).isList
 have it:=S.li (.head _)
 rcases Nat.lt_or_ge i items.length with hlt | hge
 ·have hx':items[i]? = some items[i]:=List.getElem?_eq_getElem hlt
  refine wpAny_pyNext_list_item it pl (x:=items[i]) (by simp [hx']) fun h' hit hs=>?_
  dsimp only
  obtain ⟨oi,e1,e2,e3⟩:=hit
  have S5:=S.change (s':=⟨h',s'.gens,s'.drawn,s'.toks,s'.os⟩) (P':=LI a (i+1)) .here hs ⟨oi,e1,e2,e3⟩ rfl
  refine wpAny_assign_Name (wpAny_mono (turn i _ I L1 _ _ hx' hJ S5) (fun _ s2 z=>wpAny_mono z (fun f s3 z=>?_) fun _ _ z=>z) fun _ _ z=>z)
  obtain ⟨hf,L2,hJ',S6⟩:=z
  rcases hf with rfl | rfl <;> exact ⟨items.length+1-(i+1),Nat.sub_lt_sub_left (Nat.lt_succ_of_lt hlt) (Nat.lt_succ_self i),i+1,L2,rfl,by lia,hJ',S6⟩
 ·have he:i=items.length:=by lia
  subst he
  refine wpAny_pyNext_list_end hh it pl (by simp) fun h' hx'=>?_
  dsimp only
  have S5:=S.ext (g:=s'.gens) (d:=s'.drawn) (t:=s'.toks) (os:=s'.os) hx' ⟨_,.head _,trivial⟩ rfl
  exact x_nil (fin L1 _ hJ S5)
theorem x_and2 {e₁ e₂:Expr}{pos:Pos}{Q:Value→Shared→Prop}
  (h:wpAny c.M A (eval e₁ env) (fun v s₁=>wpAny c.M A (truthy v) (fun b s₂=>Br b (wpAny c.M A (eval e₂ env) Q E s₂) (Q v s₂)) E s₁) E s) :
  wpAny c.M A (eval (.BoolOp .And [e₁,e₂] pos) env) Q E s :=
 BoolOp_and (wpAny_mono h (fun v s₁ z=>wpAny_mono z (fun b s₂ z=>by
  cases b
  ·exact z.2 rfl
  ·exact BoolOp_one (z.1 rfl)) fun _ _ z=>z) fun _ _ z=>z)
theorem i_len {fr x dx C f:Addr}{l:List (Nat × Value)}{PP:Obj→Prop}{Q:Value→Shared→Prop} (S:St c L s) (hfr:(fr,Nm l)∈L) (hx:(x,InstP C dx)∈L) (hd:(dx,PP)∈L) (hc:∀ P,spOk (Mine.K P) C "__len__" f=true)
  (h:codeAny c.M A.in1 (.call (.ref f) ⟨[.ref x],[]⟩) (Ret (fun r s'=>∃ n u,r=.int n u∧0≤n∧n<1000∧∃ L',St c L' s'∧∀ tk s2,St c L' s2→Q (.int n tk) s2) E) s):wpAny c.M A (call (.builtin "len") [.ref x]) Q E s:=by
 have hc:=hc c.P
 unfold spOk at hc
 simp only [Bool.and_eq_true,decide_eq_true_eq] at hc
 obtain ⟨m,F⟩:=S.frm hfr
 obtain ⟨od,I⟩:=S.instP hx hd
 refine len_K F S.ok.K I hc.1.1.1 hc.1.1.2 (wpAny_mono (x_code h) (fun r s' z=>?_) fun _ _ z=>z)
 obtain ⟨n,u,rfl,h0,h1,L',S',h2⟩:=z
 exact ⟨⟨h0,by lia⟩,h2 _ _ (S'.like rfl rfl)⟩
end
theorem IntsAre.snoc {xs:List Value}{ns:List Int}{n:Int}{t:Tok} (h:IntsAre xs ns):IntsAre (xs++[.int n t]) (ns++[n]):=h.append (.cons n t .nil)
end
section
set_option hygiene false in
local macro_rules | `(tactic| walk_at "nm")=>`(tactic| first
 | refine e_localC ‹_› ‹_› (by walk_at "m") (by walk_at "i") (by decide) (by rfl) (by rfl) ?_
 | refine e_cellC ‹_› ‹_› (by walk_at "i") (by decide) (by rfl) (by rfl) (by walk_at "m") ?_
 | refine e_globalC ‹_› ‹_› (by walk_at "i") (by decide) (by rfl) (by rfl) ?_
 | refine e_builtinC ‹_› ‹_› (by walk_at "i") (by decide) (by rfl) (by rfl) ?_
 | refine c_local ‹_› (by rfl) (by rfl) (by walk_at "m") (by walk_at "i") (by decide) (by rfl) ?_
 | refine c_cell ‹_› (by rfl) (by rfl) (by rfl) (by walk_at "m") (by walk_at "i") (by decide) ?_)
section
theorem fn1402:FnC 1402 Mine.fd1402 tb1402:=⟨fun P=>by kernel_rfl!,fun P=>by kernel_rfl!,rfl,rfl,rfl,rfl,rfl,by kernel_rfl!,by kernel_rfl!,rfl⟩
theorem keep1397 (P:Params):keepIn (Mine.K P) (.ref 1397)=true:=by kernel_rfl!
section
variable {env:Env}{fr:Addr}
noncomputable abbrev dueFr (a D H:Addr) (room last deed key val:Int) (rt lt dt kt vt:Tok):List (Nat × Value):=[(103,.ref H),(98,.ref D),(15,.int val vt),(11,.int key kt),(94,.int deed dt),(101,.int last lt),(99,.int room rt),(89,.ref a)]
section
variable {rs:List Rw}{r:Rw}{key now room last deed val:Int}
theorem dueP_put (h:deed<2∨(deed=4∧ofK key (lvR now rs)=[])):dueP room last now deed key val (rs.map Rw.p)=putA room last now key val (if deed=4 then .int val else .pairs []) (rs.map Rw.p):=by
 unfold dueP
 rcases h with h | ⟨rfl,h⟩
 ·rw [if_pos h,if_neg (by lia)]
 ·rw [if_neg (by decide),if_neg (by decide),if_neg (by decide),find_map,h]
  rfl
theorem dueP_5:dueP room last now 5 key val (rs.map Rw.p)=(match livingP now (rs.map Rw.p) with | []=>(.text (Str.ofString "missing"),[]) | p::r=>(.pairs [(p.k,p.v)],r)):=by
 unfold dueP
 rw [if_neg (by decide),if_pos rfl]
 try rfl
theorem dueP_6:dueP room last now 6 key val (rs.map Rw.p)=(.pairs (sortP ((deadP now (rs.map Rw.p)).map kv)),livingP now (rs.map Rw.p)):=by
 unfold dueP
 rw [if_neg (by decide),if_neg (by decide),if_pos rfl]
theorem dueP_none (h2:¬ deed<2) (h4:deed≠4) (h5:deed≠5) (h6:deed≠6) (h:ofK key (lvR now rs)=[]):dueP room last now deed key val (rs.map Rw.p)=(.int (if deed=2 then -8 else -7),rs.map Rw.p):=by
 unfold dueP
 rw [if_neg h2,if_neg h5,if_neg h6,find_map,h]
 simp [h4]
theorem dueP_some (h2:¬ deed<2) (h5:deed≠5) (h6:deed≠6) (h:ofK key (lvR now rs)=[r]):dueP room last now deed key val (rs.map Rw.p)=(.int r.v,if deed=2 then dropP key (rs.map Rw.p) else dropP key (rs.map Rw.p)++[r.p]):=by
 unfold dueP
 rw [if_neg h2,if_neg h5,if_neg h6,find_map,h]
 rfl
end
noncomputable def tailPut:List Stmt:=match fd1402.body with | .stmts (_::_::.If _ b _ _::_)=>b.tail | _=>[]
noncomputable def due_fin_P (its:List Value) (b D' D H a:Addr) (room last deed key val:Int) (rt lt dt kt vt:Tok) (Q:Flow→Shared→Prop):Prop:=∀ (hu:A.units+20<cLine) (S:St c ((fr,Nm ((89,.ref D')::(104,.ref b)::dueFr a D H room last deed key val rt lt dt kt vt))::(b,LiP its)::L) s) (h1:its=[]→deed=4→∀ x b' s',St c ((x,TuP [.ref b',.ref D'])::(b',LiP [.int val vt])::L) s'→Q (.ret (.ref x)) s') (h2:¬(its=[]∧deed=4)→∀ x s',St c ((x,TuP [.ref b,.ref D'])::(b,LiP its)::L) s'→Q (.ret (.ref x)) s'),wpAny c.M (A.deeper (envC 1402 fd1402 fr)) (execs tailPut (envC 1402 fd1402 fr)) Q E s
theorem due_fin {its:List Value}{b D' D H a:Addr}{room last deed key val:Int}{rt lt dt kt vt:Tok}{Q:Flow→Shared→Prop}:@due_fin_P c L s A E fr its b D' D H a room last deed key val rt lt dt kt vt Q:=by
 revert c L s A E fr its b D' D H a room last deed key val rt lt dt kt vt Q
 walk_at "e9"; intro c L s A E fr its b D'
 walk_at "e9"; intro D H a room last deed key val rt
 walk_at "e5"; intro lt dt kt vt Q
 intro hu S h1 h2
 have F:=fn1402
 unfold tailPut
 show wpAny c.M (A.deeper (envC 1402 fd1402 fr)) (execs (Stmt.If _ _ _ _::_) (envC 1402 fd1402 fr)) Q E s
 refine x_cons (x_ifC (decide (its=[]∧deed=4)) (fun s=>St c ((fr,Nm ((89,.ref D')::(104,.ref b)::dueFr a D H room last deed key val rt lt dt kt vt))::(b,LiP its)::L) s) ?_ fun s S=>?_)
 ·walk_at "g"
  rename_i e s S
  refine l_eq_nil S (by walk_at "m") (by walk_at "m") (by show A.units+3<_; lia) ?_
  have S:=S.dropAt (p:=(e,_)) (by walk_at "k")
  cases its with
  | nil =>
   rw [List.isEmpty_nil]
   walk_at "g"
   by_cases hd:deed=4
   ·rw [show (deed == 4)=true by simpa using hd]
    walk_at "g"
    exact ⟨by simp [hd],‹_›⟩
   ·rw [show (deed == 4)=false by simpa using hd]
    walk_at "g"
    exact ⟨by simp [hd],‹_›⟩
  | cons x xs =>
   rw [List.isEmpty_cons]
   walk_at "g"
   exact ⟨by simp,S⟩
 ·by_cases hc:its=[]∧deed=4
  ·rw [decide_eq_true hc]
   refine Br.t ?_
   walk_at "g"
   rename_i b' s1 S1 s2 S2 x s3 S3
   have S:=S3.dropAt (p:=(fr,_)) (by walk_at "k")
   have S:=S.dropAt (p:=(b,_)) (by walk_at "k")
   exact h1 hc.1 hc.2 _ _ _ (S.perm (by exact .refl _))
  ·rw [decide_eq_false hc]
   refine Br.f ?_
   walk_at "g"
   rename_i x s1 S1
   have S:=S1.dropAt (p:=(fr,_)) (by walk_at "k")
   exact h2 hc _ _ (S.perm (by exact .refl _))
noncomputable def bodyPut:List Stmt:=match fd1402.body with | .stmts (_::_::.If _ b _ _::_)=>b | _=>[]
noncomputable def due_put_P (rs:List Rw) (a D H:Addr) (room last now deed key val:Int) (rt lt nt dt kt vt:Tok) (Q:Flow → Shared → Prop):Prop:=∀ (S:St c ((D, LiP (refs (lvR now rs))) :: (fr, Nm (dueFr a D H room last deed key val rt lt dt kt vt)) :: (fr+1, CeP (some (.int now nt))) :: (H, LiP (vals (ofK key (lvR now rs)))) :: (a, LiP (refs rs)) :: L) s) (hr:A.depth+2<recursionLimit) (hh:A.handled=none) (hu:A.units+20<cLine) (hz:rs.length≤4) (hm:∀ r ∈ rs, (r.a, TuP r.tup) ∈ L) (hn:(rs.map Rw.k).Nodup) (hlen:(rs.length:Int)≤max room 0) (hdry:last≤0 → rs=[]) (hl0:0≤last) (hput:deed<2 ∨ (deed=4 ∧ ofK key (lvR now rs)=[])) (h:∀ x b D u rs' X M s', (u, rs'.map Rw.p)=dueP room last now deed key val (rs.map Rw.p) → AnsC b u X → (∀ r ∈ rs', r ∈ rs ∨ (r.a, TuP r.tup) ∈ M) →
   St c ((x,TuP [.ref b,.ref D])::(X++((D,LiP (refs rs'))::(M++L)))) s'→Q (.ret (.ref x)) s'),wpAny c.M (A.deeper (envC 1402 fd1402 fr)) (execs bodyPut (envC 1402 fd1402 fr)) Q E s
set_option maxHeartbeats 1000000 in
theorem due_put {rs:List Rw}{a D H:Addr}{room last now deed key val:Int}{rt lt nt dt kt vt:Tok}{Q:Flow→Shared→Prop}:@due_put_P c L s A E fr rs a D H room last now deed key val rt lt nt dt kt vt Q:=by
 revert c L s A E fr rs a D H room last now deed key val rt lt nt dt kt vt Q
 walk_at "e9"; intro c L s A E fr rs a D
 walk_at "e9"; intro H room last now deed key val rt lt
 walk_at "e5"; intro nt dt kt vt Q
 intro S hr hh hu hz hm hn hlen hdry hl0 hput h
 have F:=fn1402
 have hmv:∀ r∈lvR now rs,(r.a,TuP r.tup)∈L:=fun r hr=>hm r (lvR_sub r hr)
 have lvz:=lvR_len (now:=now) (rs:=rs)
 have hD:=dueP_put (room:=room) (last:=last) (val:=val) hput
 show wpAny c.M (A.deeper (envC 1402 fd1402 fr)) (execs (Stmt.Assign [Expr.Tuple _ _ _] _ _::tailPut) (envC 1402 fd1402 fr)) Q E s
 refine x_cons ?_
 refine Assign_Tuple ?_
 walk_at "g"
 refine To.K keep1397 ?_
 walk_at "g"
 have S:St c ((D,LiP (refs (lvR now rs)))::(fr,Nm (dueFr a D H room last deed key val rt lt dt kt vt))::(fr+1,CeP (some (.int now nt)))::(H,LiP (vals (ofK key (lvR now rs))))::(a,LiP (refs rs))::L) s:=S.perm (by exact .refl _)
 refine ⟨⟨_,S⟩,law_put S (by rw [depth_deeper]; lia) hh (by lia) (fun r hr=>.tail _ (.tail _ (.tail _ (.tail _ (hmv r hr))))) ?_ ?_ ?_⟩
 ·intro hl x b D2 s S
  have e0:=hdry (by lia)
  subst e0
  refine Ret.ok ?_
  refine x_unpackNN S (by walk_at "m") hh fun s S=>?_
  iterate 2 walk_at "go"
  rename_i S
  refine Seq.next ?_
  have S:=S.dropAt (p:=(x,_)) (by walk_at "k")
  have S:=S.dropAt (p:=(D,_)) (by walk_at "k")
  have S:=S.dropAt (p:=(H,_)) (by walk_at "k")
  have S:=S.dropAt (p:=(a,_)) (by walk_at "k")
  have S:=S.dropAt (p:=(fr+1,_)) (by walk_at "k")
  rw [putA,if_pos (by lia)] at hD
  refine due_fin hu (L:=(D2,LiP (refs (wo key (lvR now []))))::L) (S.perm (by exact ixd [2] rfl)) (fun _ h4 x b' s S=>?_) (fun hc x s S=>?_)
  ·rw [if_pos h4] at hD
   exact h x b' D2 (.int val) [] [(b',LiP [.int val vt])] [] s hD.symm ⟨vt,rfl⟩ (fun _ h=>nomatch h) S
  ·rw [if_neg (fun z=>hc ⟨rfl,z⟩)] at hD
   exact h x b D2 (.pairs []) [] [(b,LiP [])] [] s hD.symm ⟨[],rfl,rfl⟩ (fun _ h=>nomatch h) S
 ·intro hl hroom x b tk s S
  refine Ret.ok ?_
  refine x_unpackNN S (by walk_at "m") hh fun s S=>?_
  iterate 2 walk_at "go"
  rename_i S
  refine Seq.next ?_
  have S:=S.dropAt (p:=(x,_)) (by walk_at "k")
  have S:=S.dropAt (p:=(H,_)) (by walk_at "k")
  have S:=S.dropAt (p:=(a,_)) (by walk_at "k")
  have S:=S.dropAt (p:=(fr+1,_)) (by walk_at "k")
  rw [putA,if_neg (by lia),if_pos hroom] at hD
  refine due_fin hu (its:=[.str (Str.ofString "refused") tk]) (L:=(D,LiP (refs (lvR now rs)))::L) (S.perm (by exact ixd [2] rfl)) (fun hc _ x b' s S=>absurd hc (List.cons_ne_nil _ _)) (fun hc x s S=>?_)
  exact h x b D (.text _) (lvR now rs) [(b,LiP [.str (Str.ofString "refused") tk])] [] s (by rw [hD,lv_map]) ⟨tk,rfl⟩ (fun r hr=>.inl (lvR_sub r hr)) S
 ·intro hl hroom x b D2 n et s S
  refine Ret.ok ?_
  refine x_unpackNN S (by walk_at "m") hh fun s S=>?_
  iterate 2 walk_at "go"
  rename_i S
  refine Seq.next ?_
  have S:=S.dropAt (p:=(x,_)) (by walk_at "k")
  have S:=S.dropAt (p:=(H,_)) (by walk_at "k")
  have S:=S.dropAt (p:=(a,_)) (by walk_at "k")
  have S:=S.dropAt (p:=(fr+1,_)) (by walk_at "k")
  rw [putA,if_neg (by lia),if_neg (by lia)] at hD
  have e1:=put_ok (lv:=lvR now rs) (new:=⟨n,key,kt,val,vt,now+last,et⟩) (room:=room) (key:=key) (val:=val) (e:=now+last) (by lia) hroom rfl rfl rfl
  rw [lv_map] at e1
  have hmm:∀ r∈wo key (trim room key (lvR now rs))++[⟨n,key,kt,val,vt,now+last,et⟩],r∈rs∨(r.a,TuP r.tup)∈[(n,TuP [.int key kt,.int val vt,.int (now+last) et])]:=fun r hr=>by
   rcases List.mem_append.mp hr with hr | hr
   ·exact .inl (lvR_sub r (trim_sub r (wo_sub r hr)))
   ·rw [List.mem_singleton] at hr
    subst hr
    exact .inr (.head _)
  refine due_fin hu (L:=(D2,LiP (refs (wo key (trim room key (lvR now rs))++[⟨n,key,kt,val,vt,now+last,et⟩])))::(n,TuP [.int key kt,.int val vt,.int (now+last) et])::L) (S.perm (by exact ixd [3] rfl)) (fun _ h4 x b' s S=>?_) (fun hc x s S=>?_)
  ·rw [if_pos h4] at hD
   exact h x b' D2 (.int val) _ [(b',LiP [.int val vt])] [(n,TuP [.int key kt,.int val vt,.int (now+last) et])] s (by rw [hD,e1]) ⟨vt,rfl⟩ hmm S
  ·rw [if_neg (fun z=>hc ⟨rfl,z⟩)] at hD
   exact h x b D2 (.pairs []) _ [(b,LiP [])] [(n,TuP [.int key kt,.int val vt,.int (now+last) et])] s (by rw [hD,e1]) ⟨[],rfl,rfl⟩ hmm S
end
end
section
section
variable {env:Env}{fr:Addr}
noncomputable def tail1402:List Stmt:=(bodyOf fd1402).drop 3
noncomputable def srOf (r:Rw):Sr:=⟨r.a,r.k,r.kt,r.v,r.vt,[.int r.e r.et]⟩
noncomputable def deadS (now:Int) (w:Sr):Bool:=match w.rest with | [.int e _]=>!decide (now<e) | _=>false
theorem sr_refs {rs:List Rw}:srefs (rs.map srOf)=refs rs:=by unfold srefs refs; rw [List.map_map]; rfl
theorem sr_dead {rs:List Rw}{now:Int}:((rs.map srOf).filter (deadS now)).map (fun w=>(w.k,w.v))=(deadP now (rs.map Rw.p)).map kv:=by
 unfold deadP
 rw [List.filter_map,List.filter_map,List.map_map,List.map_map]
 rfl
noncomputable def due_rest_P (rs:List Rw) (a D H:Addr) (room last now deed key val:Int) (rt lt nt dt kt vt:Tok) (Q:Flow → Shared → Prop):Prop:=∀ (S:St c ((fr, Nm (dueFr a D H room last deed key val rt lt dt kt vt)) :: (fr+1, CeP (some (.int now nt))) :: (H, LiP (vals (ofK key (lvR now rs)))) :: (D, LiP (refs (lvR now rs))) :: (a, LiP (refs rs)) :: L) s) (hr:A.depth+2<recursionLimit) (hh:A.handled=none) (hu:A.units+20<cLine) (hz:rs.length≤4) (hm:∀ r ∈ rs, (r.a, TuP r.tup) ∈ L) (hn:(rs.map Rw.k).Nodup) (hput:¬ (deed<2 ∨ (deed=4 ∧ ofK key (lvR now rs)=[]))) (h:∀ x b D u rs' X M s', (u, rs'.map Rw.p)=dueP room last now deed key val (rs.map Rw.p) → AnsC b u X → (∀ r ∈ rs', r ∈ rs ∨ (r.a, TuP r.tup) ∈ M) →
   St c ((x,TuP [.ref b,.ref D])::(X++((D,LiP (refs rs'))::(M++L)))) s'→Q (.ret (.ref x)) s'),wpAny c.M (A.deeper (envC 1402 fd1402 fr)) (execs tail1402 (envC 1402 fd1402 fr)) Q E s
set_option maxHeartbeats 1000000 in
theorem due_rest {rs:List Rw}{a D H:Addr}{room last now deed key val:Int}{rt lt nt dt kt vt:Tok}{Q:Flow→Shared→Prop}:@due_rest_P c L s A E fr rs a D H room last now deed key val rt lt nt dt kt vt Q:=by
 revert c L s A E fr rs a D H room last now deed key val rt lt nt dt kt vt Q
 walk_at "e9"; intro c L s A E fr rs a D
 walk_at "e9"; intro H room last now deed key val rt lt
 walk_at "e5"; intro nt dt kt vt Q
 intro S hr hh hu hz hm hn hput h
 have F:=fn1402
 have hmv:∀ r∈lvR now rs,(r.a,TuP r.tup)∈L:=fun r hr=>hm r (lvR_sub r hr)
 have lvz:=lvR_len (now:=now) (rs:=rs)
 have fz:∀ {l:List Rw},(refs l).length=l.length:=fun {l}=>by unfold refs; rw [List.length_map]
 have hx2:¬ deed<2:=fun z=>hput (.inl z)
 unfold tail1402 bodyOf
 show wpAny c.M (A.deeper (envC 1402 fd1402 fr)) (execs (Stmt.If _ _ _ _::_) (envC 1402 fd1402 fr)) Q E s
 walk_at "g"
 rename_i S
 refine ⟨fun e5=>?_,fun e5=>?_⟩
 ·have e5:deed=5:=by simpa using e5
  subst e5
  have hD:=dueP_5 (rs:=rs) (room:=room) (last:=last) (now:=now) (key:=key) (val:=val)
  rw [← lv_map] at hD
  walk_at "g"
  rename_i e s S
  refine l_eq_nil S (by exact ixm 4 rfl) (by walk_at "m") (by show A.units+3<_; lia) ?_
  have S:=S.dropAt (p:=(e,_)) (by walk_at "k")
  cases hlv:lvR now rs with
  | nil =>
   rw [hlv] at S hD
   rw [show (refs []).isEmpty=true from rfl]
   walk_at "g"
   rename_i tk s1 S1 b s2 S2 x s3 S3
   have S:=S3.dropAt (p:=(fr,_)) (by walk_at "k")
   have S:=S.dropAt (p:=(H,_)) (by walk_at "k")
   have S:=S.dropAt (p:=(a,_)) (by walk_at "k")
   have S:=S.dropAt (p:=(fr+1,_)) (by walk_at "k")
   exact h x b D _ [] _ [] _ hD.symm ⟨tk,rfl⟩ (fun _ h=>nomatch h) (S.perm (by walk_at "d"))
  | cons r rest =>
   rw [hlv] at S hD
   rw [show (refs (r::rest)).isEmpty=false from rfl]
   have hr1:=hmv r (by rw [hlv]; exact .head _)
   have hlz:rest.length+1≤4:=by have:=lvz; rw [hlv,List.length_cons] at this; lia
   walk_at "g"
   refine l_item ‹_› (xs:=refs (r::rest)) (v:=.ref r.a) (by walk_at "m") rfl (by rw [fz,List.length_cons]; lia) ?_
   walk_at "g"
   refine t_item ‹_› (its:=r.tup) (v:=.int r.k r.kt) (by walk_at "m") rfl (Nat.le_of_ble_eq_true (by rfl)) ?_
   walk_at "g"
   refine l_item ‹_› (xs:=refs (r::rest)) (v:=.ref r.a) (by walk_at "m") rfl (by rw [fz,List.length_cons]; lia) ?_
   walk_at "g"
   refine t_item ‹_› (its:=r.tup) (v:=.int r.v r.vt) (by walk_at "m") rfl (Nat.le_of_ble_eq_true (by rfl)) ?_
   walk_at "g"
   rename_i t s1 S1 b s2 S2
   refine x_tail S2 (xs:=refs (r::rest)) (by exact ixm 5 rfl) (by rw [fz,List.length_cons]; lia) fun d s S=>?_
   walk_at "g"
   rename_i x s3 S3
   have S:=S3.dropAt (p:=(fr,_)) (by walk_at "k")
   have S:=S.dropAt (p:=(H,_)) (by walk_at "k")
   have S:=S.dropAt (p:=(a,_)) (by walk_at "k")
   have S:=S.dropAt (p:=(D,_)) (by walk_at "k")
   have S:=S.dropAt (p:=(fr+1,_)) (by walk_at "k")
   refine h x b d (.pairs [(r.k,r.v)]) rest ((b,LiP [.ref t])::[(t,TuP [.int r.k r.kt,.int r.v r.vt])]) [] _ ?_ ⟨[(t,r.k,r.kt,r.v,r.vt)],rfl,rfl⟩ (fun r' hr'=>.inl (lvR_sub r' (by rw [hlv]; exact .tail _ hr'))) ?_
   ·rw [hD]; rfl
   ·have e:(refs (r::rest)).drop 1=refs rest:=rfl
    rw [e] at S
    exact S.perm (by walk_at "d")
 have h5:deed≠5:=by simpa using e5
 walk_at "g"
 rename_i S
 refine ⟨fun e6=>?_,fun e6=>?_⟩
 ·have e6:deed=6:=by simpa using e6
  subst e6
  have hD:=dueP_6 (rs:=rs) (room:=room) (last:=last) (now:=now) (key:=key) (val:=val)
  walk_at "g"
  refine x_pairs (kx:=90) (ws:=rs.map srOf) (L0:=(fr,Nm (dueFr a D H room last 6 key val rt lt dt kt vt))::(fr+1,CeP (some (.int now nt)))::(H,LiP (vals (ofK key (lvR now rs))))::(D,LiP (refs (lvR now rs)))::L) (deadS now) (cl:=[(Str.ofString "now", fr+1)]) ix90 (by decide) (by rfl) (by decide) (by rfl) (by decide) (by rfl) (fun _=>rfl) hh (by rw [List.length_map]; lia) (fun w hw=>?_) (fun C=>by rfl) ?_ ?_ ?_
  ·obtain ⟨r,_,rfl⟩:=List.mem_map.mp hw
   exact Nat.le_of_ble_eq_true (by rfl)
  ·walk_at "g"
   refine ⟨a,rfl,fun w hw=>?_,?_⟩
   ·obtain ⟨r,hr,rfl⟩:=List.mem_map.mp hw
    have hm':=hm r hr
    exact .tail _ (.tail _ (.tail _ (.tail _ hm')))
   ·rw [sr_refs]
    exact S.perm (by exact ixd [4] rfl)
  ·intro w hw a' C I D' ys i X s E' Q' S hQ
   obtain ⟨r,hr,rfl⟩:=List.mem_map.mp hw
   have hm':=hm r hr
   refine Tst.one ?_
   have S:St c ((C,Nm [(90,.ref r.a)])::(I,LI a' i)::(D',LiP ys)::(a',LiP (srefs (rs.map srOf)))::(X++((fr,Nm (dueFr a D H room last 6 key val rt lt dt kt vt))::(fr+1,CeP (some (.int now nt)))::(H,LiP (vals (ofK key (lvR now rs))))::(D,LiP (refs (lvR now rs)))::L))) s:=S
   walk_at "g"
   rename_i S
   refine t_item S (its:=r.tup) (v:=.int r.e r.et) (by walk_at "m") rfl (Nat.le_of_ble_eq_true (by rfl)) ?_
   walk_at "g"
   exact hQ _ ‹_›
  ·intro a' D' ts s hp S
   have S:=S.dropAt (p:=(a',_)) (by walk_at "k")
   rw [sr_dead] at hp
   have hnk:(ts.map (·.2.1)).Nodup:=by
    rw [keys_pairs,hp]
    exact dead_keys (by rw [keys_mapR]; exact hn)
   have htl:ts.length≤4:=by
    have e1:=congrArg List.length hp
    unfold pairsOf at e1
    rw [List.length_map,List.length_map] at e1
    have:(deadP now (rs.map Rw.p)).length≤(rs.map Rw.p).length:=List.length_filter_le _ _
    rw [List.length_map] at this
    lia
   refine Ev.nil ?_
   have S:St c ((fr,Nm (dueFr a D H room last 6 key val rt lt dt kt vt))::(D',LiP (pairRefs ts))::(pairCells ts++((fr+1,CeP (some (.int now nt)))::(H,LiP (vals (ofK key (lvR now rs))))::(D,LiP (refs (lvR now rs)))::L))) s:=S.perm (by exact ixe 1 2 [1] rfl rfl rfl)
   refine l_sorted S (.head _) (fun p hp=>.tail _ (List.mem_append_left _ hp)) hnk htl fun D2 ts' s pm srt S=>?_
   walk_at "g"
   rename_i x s3 S3
   have S:=S3.dropAt (p:=(fr,_)) (by walk_at "k")
   have S:=S.dropAt (p:=(D',_)) (by walk_at "k")
   have S:=S.dropAt (p:=(H,_)) (by walk_at "k")
   have S:=S.dropAt (p:=(fr+1,_)) (by walk_at "k")
   have pp:=pairs_perm pm
   have e1:pairsOf ts'=sortP ((deadP now (rs.map Rw.p)).map kv):=sortP_eq (by rw [← hp]; exact pp.1) (by rw [← keys_pairs]; exact srt)
   refine h x D2 D (.pairs (pairsOf ts')) (lvR now rs) ((D2,LiP (pairRefs ts'))::pairCells ts') [] _ ?_ ⟨ts',rfl,rfl⟩ (fun r hr=>.inl (lvR_sub r hr)) ?_
   ·rw [hD,e1,lv_map]
   ·have S:St c ((x,TuP [.ref D2,.ref D])::(D2,LiP (pairRefs ts'))::(pairCells ts++((D,LiP (refs (lvR now rs)))::L))) _:=S.perm (by walk_at "d")
    exact S.perm (((pp.2.append_right _).cons _).cons _)
 have h6:deed≠6:=by simpa using e6
 walk_at "g"
 rename_i e s S
 refine l_eq_nil S (by walk_at "m") (by walk_at "m") (by show A.units+3<_; lia) ?_
 have S:=S.dropAt (p:=(e,_)) (by walk_at "k")
 cases hk:ofK key (lvR now rs) with
 | nil =>
  rw [hk] at S
  rw [show (vals []).isEmpty=true from rfl]
  have h4:deed≠4:=fun z=>hput (.inr ⟨z,hk⟩)
  have hD:=dueP_none (room:=room) (last:=last) (val:=val) hx2 h4 h5 h6 hk
  walk_at "g"
  refine x_ifexp ?_
  walk_at "g"
  refine ⟨fun e2=>?_,fun e2=>?_⟩
  all_goals
   walk_at "g"
   refine x_neg ‹_› fun tk s S=>?_
   walk_at "g"
   rename_i b s2 S2 x s3 S3
   have S:=S3.dropAt (p:=(fr,_)) (by walk_at "k")
   have S:=S.dropAt (p:=(D,_)) (by walk_at "k")
   have S:=S.dropAt (p:=(H,_)) (by walk_at "k")
   have S:=S.dropAt (p:=(fr+1,_)) (by walk_at "k")
   refine h x b a (.int (if deed=2 then -8 else -7)) rs ((b,LiP _)::[]) [] _ (by rw [hD]) ⟨tk,?_⟩ (fun r hr=>.inl hr) (S.perm (by walk_at "d"))
  ·rw [if_pos (by simpa using e2)]
  ·rw [if_neg (by simpa using e2)]
 | cons r rest =>
  have hr1:r∈ofK key (lvR now rs):=by rw [hk]; exact .head _
  obtain ⟨o1,o2⟩:=held_one hn hr1
  rw [o1] at S
  rw [← hk,o1]
  rw [show (vals [r]).isEmpty=false from rfl]
  have hD:=dueP_some (room:=room) (last:=last) (val:=val) hx2 h5 h6 o1
  walk_at "g"
  refine ⟨fun e2=>?_,fun e2=>?_⟩
  ·have e2:deed=2:=by simpa using e2
   rw [if_pos e2] at hD
   walk_at "g"
   refine To.K keep1385 ?_
   walk_at "g"
   rename_i s S _
   have S:St c ((a,LiP (refs rs))::(fr,Nm (dueFr a D H room last deed key val rt lt dt kt vt))::(fr+1,CeP (some (.int now nt)))::(H,LiP (vals [r]))::(D,LiP (refs (lvR now rs)))::L) _:=S.perm (by exact ixd [4] rfl)
   refine ⟨⟨_,S⟩,law_without S (by rw [depth_deeper]; lia) hh (by lia) (fun r hr=>.tail _ (.tail _ (.tail _ (.tail _ (hm r hr))))) fun W s S=>?_⟩
   walk_at "g"
   rename_i x s3 S3
   have S:=S3.dropAt (p:=(fr,_)) (by walk_at "k")
   have S:=S.dropAt (p:=(a,_)) (by walk_at "k")
   have S:=S.dropAt (p:=(D,_)) (by walk_at "k")
   have S:=S.dropAt (p:=(fr+1,_)) (by walk_at "k")
   exact h x H W (.int r.v) (wo key rs) [(H,LiP (vals [r]))] [] _ (by rw [hD,wo_map]) ⟨r.vt,rfl⟩ (fun r hr=>.inl (wo_sub r hr)) (S.perm (by walk_at "d"))
  ·have e2:deed≠2:=by simpa using e2
   rw [if_neg e2] at hD
   walk_at "g"
   refine To.K keep1385 ?_
   walk_at "g"
   rename_i s S _
   have S:St c ((a,LiP (refs rs))::(fr,Nm (dueFr a D H room last deed key val rt lt dt kt vt))::(fr+1,CeP (some (.int now nt)))::(H,LiP (vals [r]))::(D,LiP (refs (lvR now rs)))::L) _:=S.perm (by exact ixd [4] rfl)
   refine ⟨⟨_,S⟩,law_without S (by rw [depth_deeper]; lia) hh (by lia) (fun r hr=>.tail _ (.tail _ (.tail _ (.tail _ (hm r hr))))) fun W s S=>?_⟩
   walk_at "g"
   refine To.K keep1380 ?_
   walk_at "g"
   have S:St c ((a,LiP (refs rs))::(W,LiP (refs (wo key rs)))::(fr,Nm (dueFr a D H room last deed key val rt lt dt kt vt))::(fr+1,CeP (some (.int now nt)))::(H,LiP (vals [r]))::(D,LiP (refs (lvR now rs)))::L) s:=S.perm (by exact ixd [1,0] rfl)
   refine ⟨⟨_,S⟩,law_row S (by rw [depth_deeper]; lia) hh (by lia) (fun r hr=>.tail _ (.tail _ (.tail _ (.tail _ (.tail _ (hm r hr)))))) fun W2 s S=>?_⟩
   have o3:rs.filter (fun r=>decide (r.k=key))=[r]:=o2
   rw [o3] at S
   have S:St c ((W2,LiP (refs [r]))::(a,LiP (refs rs))::(W,LiP (refs (wo key rs)))::(fr,Nm (dueFr a D H room last deed key val rt lt dt kt vt))::(fr+1,CeP (some (.int now nt)))::(H,LiP (vals [r]))::(D,LiP (refs (lvR now rs)))::L) s:=S
   walk_at "g"
   have wl:=wo_len key rs
   refine l_add S (by walk_at "m") (by walk_at "m") (by rw [fz,fz,List.length_singleton]; lia) fun W3 s S=>?_
   have e3:refs (wo key rs)++refs [r]=refs (wo key rs++[r]):=by unfold refs; rw [List.map_append]
   rw [e3] at S
   walk_at "g"
   rename_i x s3 S3
   have S:=S3.dropAt (p:=(fr,_)) (by walk_at "k")
   have S:=S.dropAt (p:=(a,_)) (by walk_at "k")
   have S:=S.dropAt (p:=(D,_)) (by walk_at "k")
   have S:=S.dropAt (p:=(W,_)) (by walk_at "k")
   have S:=S.dropAt (p:=(W2,_)) (by walk_at "k")
   have S:=S.dropAt (p:=(fr+1,_)) (by walk_at "k")
   have hr2:r∈rs:=ofK_sub r (by rw [o2]; exact .head _)
   refine h x H W3 (.int r.v) (wo key rs++[r]) [(H,LiP (vals [r]))] [] _ (by rw [hD,List.map_append,wo_map]; rfl) ⟨r.vt,rfl⟩ (fun r' hr'=>?_) (S.perm (by walk_at "d"))
   rcases List.mem_append.mp hr' with hr' | hr'
   ·exact .inl (wo_sub r' hr')
   ·rw [List.mem_singleton] at hr'; subst hr'; exact .inl hr2
end
end
section
section
variable {env:Env}{fr:Addr}
noncomputable def law_due_P (rs:List Rw) (a:Addr) (room last now deed key val:Int) (rt lt nt dt kt vt:Tok):Prop:=∀ (S:St c ((a, LiP (refs rs)) :: L) s) (hr:A.depth+2<recursionLimit) (hh:A.handled=none) (hu:A.units+20<cLine) (hz:rs.length≤4) (hm:∀ r ∈ rs, (r.a, TuP r.tup) ∈ L) (hn:(rs.map Rw.k).Nodup) (hlen:(rs.length:Int)≤max room 0) (hdry:last≤0 → rs=[]) (hl0:0≤last) (h:∀ x b D u rs' X M s', (u, rs'.map Rw.p)=dueP room last now deed key val (rs.map Rw.p) → AnsC b u X → (∀ r ∈ rs', r ∈ rs ∨ (r.a, TuP r.tup) ∈ M) →
   St c ((x,TuP [.ref b,.ref D])::(X++((D,LiP (refs rs'))::(M++L)))) s'→R (.ok (.ret (.ref x))) s'),codeAny c.M A (.call (.ref 1402) ⟨[.ref a,.int room rt,.int last lt,.int now nt,.int deed dt,.int key kt,.int val vt],[]⟩) R s
set_option maxHeartbeats 1000000 in
theorem law_due {rs:List Rw}{a:Addr}{room last now deed key val:Int}{rt lt nt dt kt vt:Tok}:@law_due_P c L s A R rs a room last now deed key val rt lt nt dt kt vt:=by
 revert c L s A R rs a room last now deed key val rt lt nt dt kt vt
 walk_at "e9"; intro c L s A R rs a room last
 walk_at "e9"; intro now deed key val rt lt nt dt kt
 walk_at "e1"; intro vt
 intro S hr hh hu hz hm hn hlen hdry hl0 h
 refine f_callC fn1402 [(89,.ref a),(99,.int room rt),(101,.int last lt),(100,.int now nt),(94,.int deed dt),(11,.int key kt),(15,.int val vt)] S (by lia) (by rfl) (by kernel_rfl!) (by kernel_rfl!) (by kernel_rfl!) (fun n=>by simp [tb1402,cellsK]) (fun n k=>by simp [tb1402,cellsK,List.lookup]; split <;> rfl) ?_
 intro fr s S
 have F:=fn1402
 have S:St c ((fr,Nm [(15,.int val vt),(11,.int key kt),(94,.int deed dt),(101,.int last lt),(99,.int room rt),(89,.ref a)])::(fr+1,CeP (some (.int now nt)))::(a,LiP (refs rs))::L) s:=S
 walk_at "g"
 refine x_rowfilterA (a:=a) (rs:=rs) (L0:=(fr,Nm [(15,.int val vt),(11,.int key kt),(94,.int deed dt),(101,.int last lt),(99,.int room rt),(89,.ref a)])::(fr+1,CeP (some (.int now nt)))::L) (fun r=>decide (now<r.e)) (cl:=[(Str.ofString "now", fr+1)]) (by rfl) (by decide) (by rfl) (by decide) (by rfl) (fun _=>rfl) hh (by lia) (by rfl) ?_ ?_ ?_
 ·walk_at "g"
  exact ⟨rfl,S.perm (by exact ixd [2] rfl)⟩
 ·intro r hr C I D ys i s E' Q' S hQ
  have hm':=hm r hr
  walk_at "g"
  rename_i S
  refine t_item S (its:=r.tup) (v:=.int r.e r.et) (by walk_at "m") rfl (Nat.le_of_ble_eq_true (by rfl)) ?_
  walk_at "g"
  exact hQ _ ‹_›
 intro D C W s S
 walk_at "g"
 rename_i s S
 refine ⟨_,_,⟨_,.head _,trivial⟩,S,fun s S=>?_⟩
 walk_at "g"
 have hml:∀ r∈ofK key (lvR now rs),(r.a,TuP r.tup)∈L:=fun r hr=>hm r (lvR_sub r (ofK_sub r hr))
 have hmv:∀ r∈lvR now rs,(r.a,TuP r.tup)∈L:=fun r hr=>hm r (lvR_sub r hr)
 have lvz:=lvR_len (now:=now) (rs:=rs)
 have hkz:(ofK key (lvR now rs)).length≤(lvR now rs).length:=List.length_filter_le _ _
 refine x_rowvalsA (rs:=ofK key (lvR now rs)) (cl:=[]) (L0:=(fr,Nm [(98,.ref D),(15,.int val vt),(11,.int key kt),(94,.int deed dt),(101,.int last lt),(99,.int room rt),(89,.ref a)])::(D,LiP (refs (lvR now rs)))::(fr+1,CeP (some (.int now nt)))::(a,LiP (refs rs))::L) (by rfl) (by decide) (by rfl) (by decide) (by rfl) (fun _=>rfl) hh (by lia) (fun r hr=>.tail _ (.tail _ (.tail _ (.tail _ (hml r hr))))) (by rfl) ?_ ?_
 ·walk_at "g"
  refine To.K keep1380 ?_
  walk_at "g"
  have S:St c ((D,LiP (refs (lvR now rs)))::(fr,Nm [(98,.ref D),(15,.int val vt),(11,.int key kt),(94,.int deed dt),(101,.int last lt),(99,.int room rt),(89,.ref a)])::(fr+1,CeP (some (.int now nt)))::(a,LiP (refs rs))::L) s:=S.perm (by exact ixd [0,1,1] rfl)
  refine ⟨⟨_,S⟩,law_row S (by rw [depth_deeper]; lia) hh (by lia) (fun r hr=>.tail _ (.tail _ (.tail _ (hmv r hr)))) fun x s S=>?_⟩
  walk_at "g"
  exact ⟨_,rfl,S.perm (by exact ixd [0,1] rfl)⟩
 intro hk H C W s S
 walk_at "g"
 rename_i s S
 refine ⟨_,_,⟨_,.head _,trivial⟩,S,fun s S=>?_⟩
 have S:St c ((fr,Nm (dueFr a D H room last deed key val rt lt dt kt vt))::(fr+1,CeP (some (.int now nt)))::(H,LiP (vals (ofK key (lvR now rs))))::(D,LiP (refs (lvR now rs)))::(a,LiP (refs rs))::L) s:=(S.dropAt (p:=(hk,_)) (by walk_at "k")).perm (by exact ixd [1,2] rfl)
 have hnil:(vals (ofK key (lvR now rs))).isEmpty=(ofK key (lvR now rs)).isEmpty:=by unfold vals; cases ofK key (lvR now rs) <;> rfl
 refine Seq.next (x_cons (x_ifC (decide (deed<2∨(deed=4∧ofK key (lvR now rs)=[]))) (fun s=>St c ((fr,Nm (dueFr a D H room last deed key val rt lt dt kt vt))::(fr+1,CeP (some (.int now nt)))::(H,LiP (vals (ofK key (lvR now rs))))::(D,LiP (refs (lvR now rs)))::(a,LiP (refs rs))::L) s) ?_ fun s S=>?_))
 ·walk_at "g"
  by_cases h2:deed<2
  ·rw [decide_eq_true h2]
   walk_at "g"
   exact ⟨by simp [h2],‹_›⟩
  rw [decide_eq_false h2]
  walk_at "g"
  by_cases h4:deed=4
  ·rw [show (deed == 4)=true by simpa using h4]
   walk_at "g"
   rename_i e s S
   refine l_eq_nil S (by walk_at "m") (by walk_at "m") (by show A.units+3<_; lia) ?_
   have S:=S.dropAt (p:=(e,_)) (by walk_at "k")
   rw [hnil]
   by_cases hk0:ofK key (lvR now rs)=[]
   ·rw [show (ofK key (lvR now rs)).isEmpty=true by rw [hk0]; rfl]
    walk_at "g"
    exact ⟨by simp [h4,hk0],‹_›⟩
   ·rw [show (ofK key (lvR now rs)).isEmpty=false by rw [List.isEmpty_eq_false_iff]; exact hk0]
    walk_at "g"
    exact ⟨by simp [h2,hk0],‹_›⟩
  ·rw [show (deed == 4)=false by simpa using h4]
   walk_at "g"
   exact ⟨by simp [h2,h4],‹_›⟩
 by_cases hput:deed<2∨(deed=4∧ofK key (lvR now rs)=[])
 ·rw [decide_eq_true hput]
  refine Br.t ?_
  have S:St c ((D,LiP (refs (lvR now rs)))::(fr,Nm (dueFr a D H room last deed key val rt lt dt kt vt))::(fr+1,CeP (some (.int now nt)))::(H,LiP (vals (ofK key (lvR now rs))))::(a,LiP (refs rs))::L) s:=S.perm (by exact ixd [3] rfl)
  exact due_put S hr hh hu hz hm hn hlen hdry hl0 hput h
 rw [decide_eq_false hput]
 refine Br.f ?_
 refine x_nil (Seq.next ?_)
 exact due_rest S hr hh hu hz hm hn hput h
end
end
section
local macro_rules | `(tactic| walk_at "nm")=>`(tactic| first
 | refine e_freeN ‹_› (by rfl) (by rfl) (by rfl) (by walk_at "m") (by walk_at "i") (by decide) ?_
 | refine e_locN ‹_› (by walk_at "m") (by rfl) (by rfl) (by walk_at "i") (by decide) (by rfl) ?_)
noncomputable def ckBody:List Stmt:=match bodyOf fd1407 with | _::_::_::_::_::_::.FunctionDef _ _ b _ _ _ _ _ _ _::_=>b | _=>[]
noncomputable def ckParams:Arguments:=match bodyOf fd1407 with | _::_::_::_::_::_::.FunctionDef _ a _ _ _ _ _ _ _ _::_=>a | _=>⟨[],[],none,[],[],none,[]⟩
noncomputable def ckScope:Scope:=match bodyOf fd1407 with | _::_::_::_::_::_::.FunctionDef _ _ _ _ _ _ sc _ _ _::_=>sc | _=>fd1407.scope
noncomputable def unBody:List Stmt:=match bodyOf fd1407 with | _::_::_::_::_::_::_::.FunctionDef _ _ b _ _ _ _ _ _ _::_=>b | _=>[]
noncomputable def unParams:Arguments:=match bodyOf fd1407 with | _::_::_::_::_::_::_::.FunctionDef _ a _ _ _ _ _ _ _ _::_=>a | _=>⟨[],[],none,[],[],none,[]⟩
noncomputable def unScope:Scope:=match bodyOf fd1407 with | _::_::_::_::_::_::_::.FunctionDef _ _ _ _ _ _ sc _ _ _::_=>sc | _=>fd1407.scope
noncomputable def NowP (t m:Int) (o:Obj):Prop:=∃ i:Tok × Tok,LiP [.int t i.1,.int m i.2] o
section

noncomputable abbrev ckFd (cn cs c':Addr) (qual:Str) (doc pm ctv:Value):FuncData:=fnX (Str.ofString "_law_clock") qual ckParams ckBody ckScope [(Str.ofString "step", cs),(Str.ofString "now", cn)] .none .none doc pm none (.ref c') ctv
noncomputable abbrev unFd (cl c':Addr) (qual:Str) (doc pm ctv:Value):FuncData:=fnX (Str.ofString "_law_until") qual unParams unBody unScope [(Str.ofString "last", cl)] .none .none doc pm none (.ref c') ctv
noncomputable abbrev ckCells (f c' cn cs nl:Addr) (step:Int) (st:Tok) (qual:Str) (doc pm ctv:Value) (t m:Int):List Cell :=
 [(f,(· = ({ cls:=.type "function", data:=.func (ckFd cn cs c' qual doc pm ctv) }:Obj))),(c',CoP qual),(cn,CeP (some (.ref nl))),(cs,CeP (some (.int step st))),(nl,NowP t m)]
noncomputable def clock_call_P (f c' cn cs nl:Addr) (step:Int) (st:Tok) (qual:Str) (doc pm ctv:Value) (t m:Int):Prop:=∀ (S:St c (ckCells f c' cn cs nl step st qual doc pm ctv t m++L) s) (hr:A.depth<recursionLimit) (h:∀ tk s',St c (ckCells f c' cn cs nl step st qual doc pm ctv (t+step) (m+1)++L) s'→R (.ok (.ret (.int (t+step) tk))) s'),codeAny c.M A (.call (.ref f) ⟨[],[]⟩) R s
theorem clock_call {f c' cn cs nl:Addr}{step:Int}{st:Tok}{qual:Str}{doc pm ctv:Value}{t m:Int}:@clock_call_P c L s A R f c' cn cs nl step st qual doc pm ctv t m:=by
 revert c L s A R f c' cn cs nl step st qual doc pm ctv t m
 walk_at "e9"; intro c L s A R f c' cn cs
 walk_at "e9"; intro nl step st qual doc pm ctv t m
 intro S hr h
 have S:St c ((f,(· = ({ cls:=.type "function", data:=.func (ckFd cn cs c' qual doc pm ctv) }:Obj)))::(c',CoP qual)::(cn,CeP (some (.ref nl)))::(cs,CeP (some (.int step st)))::(nl,NowP t m)::L) s:=S
 obtain ⟨⟨k1,k2⟩,S⟩:=(S.pick (p:=(nl,NowP t m)) (by walk_at "k")).open1
 refine f_callN (fd:=ckFd cn cs c' qual doc pm ctv) [] [(100,.free),(110,.free)] S (by walk_at "m") rfl (by walk_at "m") rfl hr rfl (by kernel_rfl!) rfl rfl rfl (by kernel_rfl!) (by kernel_rfl!) (by kernel_rfl!) (by kernel_rfl!) ?_
 intro fr s S
 unfold ckBody bodyOf
 show wpAny c.M _ (execs [_,_,_] _) _ _ s
 walk_at "g"
 refine l_item ‹_› (xs:=[.int t k1,.int m k2]) (v:=.int t k1) (by walk_at "m") rfl (Nat.le_of_ble_eq_true (by rfl)) ?_
 walk_at "g"
 refine l_setitem ‹_› (its:=[.int t k1,.int m k2]) (i:=0) (by walk_at "r") (Nat.le_of_ble_eq_true (by rfl)) (Nat.le_of_ble_eq_true (by rfl)) fun s S=>?_
 have S:=S.weak (a:=nl) (P':=fun o=>∃ i,LiP [.int (t+step) i,.int m k2] o) (by walk_at "r") (by intro o z; exact ⟨_,z⟩)
 obtain ⟨t1,S⟩:=(S.pick (p:=(nl,_)) (by walk_at "k")).open1
 walk_at "g"
 refine l_item ‹_› (xs:=[.int (t+step) t1,.int m k2]) (i:=1) (v:=.int m k2) (by walk_at "m") rfl (Nat.le_of_ble_eq_true (by rfl)) ?_
 walk_at "g"
 refine l_setitem ‹_› (its:=[.int (t+step) t1,.int m k2]) (i:=1) (by walk_at "r") (Nat.le_of_ble_eq_true (by rfl)) (Nat.le_of_ble_eq_true (by rfl)) fun s S=>?_
 have S:=S.weak (a:=nl) (P':=fun o=>∃ i,LiP [.int (t+step) t1,.int (m+1) i] o) (by walk_at "r") (by intro o z; exact ⟨_,z⟩)
 obtain ⟨t2,S⟩:=(S.pick (p:=(nl,_)) (by walk_at "k")).open1
 walk_at "g"
 rename_i s S
 refine l_item S (xs:=[.int (t+step) t1,.int (m+1) t2]) (v:=.int (t+step) t1) (by walk_at "m") rfl (Nat.le_of_ble_eq_true (by rfl)) ?_
 walk_at "g"
 have S:=S.dropAt (p:=(fr,_)) (by walk_at "k")
 have S:=S.weak (a:=nl) (P':=NowP (t+step) (m+1)) (by walk_at "r") fun o z=>⟨(t1,t2),z⟩
 exact h _ _ (S.perm (L':=(f,(· = ({ cls:=.type "function", data:=.func (ckFd cn cs c' qual doc pm ctv) }:Obj)))::(c',CoP qual)::(cn,CeP (some (.ref nl)))::(cs,CeP (some (.int step st)))::(nl,NowP (t+step) (m+1))::L) (by exact ixd [1,1,1,1] rfl))
noncomputable def lawCk (c:Cx) (f c' cn cs nl:Addr) (step:Int) (st:Tok) (qual:Str) (doc pm ctv:Value):Ck c where
 clk:=f
 step:=step
 G:=fun t m=>ckCells f c' cn cs nl step st qual doc pm ctv t m
 fn:=fun S=>by
  obtain ⟨o,e,rfl⟩:=S.get (.head _)
  exact ⟨_,_,e,rfl⟩
 call:=fun S hr h=>clock_call S hr h
theorem until_call {f c' cl:Addr}{last:Int}{lt:Tok}{qual:Str}{doc pm ctv:Value}{k v t:Int}{kt vt tt:Tok} (S:St c ((f,(· = ({ cls:=.type "function", data:=.func (unFd cl c' qual doc pm ctv) }:Obj)))::(c',CoP qual)::(cl,CeP (some (.int last lt)))::L) s) (hr:A.depth<recursionLimit)
  (h:∀ tk s',St c ((f,(· = ({ cls:=.type "function", data:=.func (unFd cl c' qual doc pm ctv) }:Obj)))::(c',CoP qual)::(cl,CeP (some (.int last lt)))::L) s'→R (.ok (.ret (.int (t+last) tk))) s'):codeAny c.M A (.call (.ref f) ⟨[.int k kt,.int v vt,.int t tt],[]⟩) R s:=by
 refine f_callN (fd:=unFd cl c' qual doc pm ctv) [(11,.int k kt),(15,.int v vt),(35,.int t tt)] [(11,.local),(15,.local),(35,.local),(101,.free)] S (by walk_at "m") rfl (by walk_at "m") rfl hr rfl (by kernel_rfl!) rfl rfl rfl (by kernel_rfl!) (by kernel_rfl!) (by kernel_rfl!) (by kernel_rfl!) ?_
 intro fr s S
 unfold unBody bodyOf
 show wpAny c.M _ (execs [_] _) _ _ s
 walk_at "g"
 rename_i S
 exact h _ _ (S.dropAt (p:=(fr,_)) (by walk_at "k"))
noncomputable def lawUn (c:Cx) (f c' cl:Addr) (last:Int) (lt:Tok) (qual:Str) (doc pm ctv:Value):Un c where
 fn:=f
 last:=last
 G:=[(f,(· = ({ cls:=.type "function", data:=.func (unFd cl c' qual doc pm ctv) }:Obj))),(c',CoP qual),(cl,CeP (some (.int last lt)))]
 o:={ cls:=.type "function", data:=.func (unFd cl c' qual doc pm ctv) }
 fd:=unFd cl c' qual doc pm ctv
 isfd:=rfl
 isfn:=fun S=>by
  obtain ⟨o,e,rfl⟩:=S.get (.head _)
  exact e
 call:=fun S hr h=>until_call S hr h
end
end
section
local macro_rules | `(tactic| walk_at "nm")=>`(tactic| first
 | refine e_localC ‹_› ‹_› (by walk_at "m") (by walk_at "i") (by decide) (by rfl) (by first | rfl | assumption) ?_
 | refine e_cellC ‹_› ‹_› (by walk_at "i") (by decide) (by rfl) (by rfl) (by first | assumption | walk_at "m") ?_
 | refine e_globalC ‹_› ‹_› (by walk_at "i") (by decide) (by rfl) (by rfl) ?_
 | refine e_builtinC ‹_› ‹_› (by walk_at "i") (by decide) (by rfl) (by rfl) ?_)
theorem fn1407:FnC 1407 Mine.fd1407 tb1407:=⟨fun P=>by kernel_rfl!,fun P=>by kernel_rfl!,rfl,rfl,rfl,rfl,rfl,by kernel_rfl!,by kernel_rfl!,rfl⟩
theorem keep1402 (P:Params):keepIn (Mine.K P) (.ref 1402)=true:=by kernel_rfl!
noncomputable def tail1407:List Stmt:=(bodyOf fd1407).drop 9
section
variable {env:Env}{fr:Addr}
theorem now_get0 {nl:Addr}{t m:Int}{u:Tok}{value slice:Expr}{Q:Value→Shared→Prop} (S:St c L s) (hm:(nl,NowP t m)∈L) (h:∀ tk,Q (.int t tk) s)
  (hs:autoParam (subscripted slice false (.ref nl) (.int 0 u)=operate [.ref nl,.int 0 u] (getItem (.ref nl) (.int 0 u))) aW):wpAny c.M A (subscriptTail value slice (.ref nl) (.int 0 u)) Q E s:=by
 obtain ⟨o,e,i,n,rfl⟩:=S.get hm
 have pl:s.heap.PlainList nl #[.int t i.1,.int m i.2]:=⟨n,e⟩
 exact item_listR (k:=0) (x:=.int t i.1) pl.isList (by decide) (by decide) rfl (h _) hs
theorem now_get1 {nl:Addr}{t m:Int}{u:Tok}{value slice:Expr}{Q:Value→Shared→Prop} (S:St c L s) (hm:(nl,NowP t m)∈L) (h:∀ tk,Q (.int m tk) s)
  (hs:autoParam (subscripted slice false (.ref nl) (.int 1 u)=operate [.ref nl,.int 1 u] (getItem (.ref nl) (.int 1 u))) aW):wpAny c.M A (subscriptTail value slice (.ref nl) (.int 1 u)) Q E s:=by
 obtain ⟨o,e,i,n,rfl⟩:=S.get hm
 have pl:s.heap.PlainList nl #[.int t i.1,.int m i.2]:=⟨n,e⟩
 exact item_listR (k:=1) (x:=.int m i.2) pl.isList (by decide) (by decide) rfl (h _) hs
variable {f c' nl:Addr}{room last step t m:Int}{rt lt st:Tok}{qual:Str}{doc pm ctv:Value}{l:List (Nat × Value)}
noncomputable def end1407:List Stmt:=(bodyOf fd1407).drop 11
noncomputable def body1407:List Stmt:=match (bodyOf fd1407).drop 10 with | .For _ _ b _ _::_=>b | _=>[]
noncomputable abbrev lawK (c:Cx) (f c' fr nl:Addr) (step:Int) (st:Tok) (qual:Str) (doc pm ctv:Value):Ck c:=lawCk c f c' (fr+1+1) (fr+1+1+1) nl step st qual doc pm ctv
noncomputable abbrev lawC (f c' fr nl:Addr) (step:Int) (st:Tok) (qual:Str) (doc pm ctv:Value) (t m:Int):List Cell:=ckCells f c' (fr+1+1) (fr+1+1+1) nl step st qual doc pm ctv t m
structure LawI {K:Ck c} (M:Mem c K) (room:Int) (rt:Tok) (Lr:List Cell) (t:Int) (B:Nat) (l:List (Nat × Value)) (da:Addr) (rs:List Rw) (X:List Cell):Prop where
 h99:l.lookup 99=some (.int room rt)
 h93:l.lookup 93=some (.ref M.ca)
 h89:l.lookup 89=some (.ref da)
 g:M.G (rs.map Rw.p) t B X
 hm:∀ r∈rs,(r.a,TuP r.tup)∈Lr
structure LawR (A:Around) (L:List Cell):Prop where
 depth:A.depth+30<recursionLimit
 units:A.units+130<cLine
 handled:A.handled=none
 frs:Frs A L
theorem LawR.deepC (h:LawR A L) {L':List Cell} (hm:(fr,Nm l)∈L') (hs:∀ p∈L,p∈L'):OkL (A.deeper (envC 1407 fd1407 fr)) L':=by
 refine ⟨by have:=h.depth; rw [depth_deeper]; lia,by have:=h.units; show A.units+3+110<_; lia,h.handled,?_⟩
 obtain ⟨envs,a1,a2⟩:=h.frs
 refine ⟨envC 1407 fd1407 fr::envs,?_,fun env he=>?_⟩
 ·show (A.deeper _).frames=_
  unfold Around.deeper
  rw [a1]; rfl
 ·rcases List.mem_cons.mp he with rfl | he
  ·exact ⟨rfl,fr,l,rfl,hm⟩
  ·obtain ⟨h1,fr',l',h2,h3⟩:=a2 env he
   exact ⟨h1,fr',l',h2,hs _ h3⟩
variable {B:Nat}{X Lr:List Cell}{da:Addr}{rs:List Rw}{n:Int}{nt:Tok}
theorem rs4 {n:Nat}{m:Int} (h:(n:Int)≤max m 0) (h2:m≤4):n≤4:=by lia
noncomputable def law_turn_P (G0:List Cell) (M:Mem c (lawK c f c' fr nl step st qual doc pm ctv)):Prop:=∀ (ok:LawR A Lr) (i:LawI M room rt Lr t B l da rs X) (hn:l.lookup 112=some (.int n nt)) (hroom:M.room=room) (hlast:M.last=last) (hr0:0≤room) (hr4:room≤4) (hl0:0≤last) (hcl:(fr+1, CeP (some (.int last lt))) ∈ M.hold ++ Lr) (hB:B≤600) (S:St c ((fr, Nm l) :: (da, LiP (refs rs)) :: (X ++ (lawC f c' fr nl step st qual doc pm ctv t m ++ (G0 ++ Lr)))) s), wpAny c.M (A.deeper (envC 1407 fd1407 fr)) (execs body1407 (envC 1407 fd1407 fr)) (fun f' s' => (f'=.next ∨ f'=.cont) ∧ ∃ l' da' rs' X' N, LawI M room rt (N ++ Lr) (t+step) (B+1) l' da' rs' X' ∧
   St c ((fr,Nm l')::(da',LiP (refs rs'))::(X'++(lawC f c' fr nl step st qual doc pm ctv (t+step) (m+1)++(N++(G0++Lr))))) s') E s
set_option maxHeartbeats 1000000 in
theorem law_turn {G0:List Cell}{M:Mem c (lawK c f c' fr nl step st qual doc pm ctv)}:@law_turn_P c s A E fr f c' nl room last step t m rt lt st qual doc pm ctv l B X Lr da rs n nt G0 M:=by
 revert c s A E fr f c' nl room last step t m rt lt st qual doc pm ctv l B X Lr da rs n nt G0 M
 walk_at "e9"; intro c s A E fr f c' nl room
 walk_at "e9"; intro last step t m rt lt st qual doc
 walk_at "e9"; intro pm ctv l B X Lr da rs n
 walk_at "e2"; intro nt G0
 walk_at "e1"; intro M
 intro ok i hn hroom hlast hr0 hr4 hl0 hcl hB S
 obtain ⟨h99,h93,h89,g,hm⟩:=i
 have F:=fn1407
 have hlastc:(fr+1,CeP (some (.int last lt)))∈X++(lawC f c' fr nl step st qual doc pm ctv t m++(G0++Lr)):=by
  rcases List.mem_append.mp hcl with h | h
  ·exact List.mem_append_left _ (M.holds g _ h)
  ·exact List.mem_append_right _ (List.mem_append_right _ (List.mem_append_right _ h))
 have hnow:(fr+1+1,CeP (some (.ref nl)))∈X++(lawC f c' fr nl step st qual doc pm ctv t m++(G0++Lr)):=List.mem_append_right _ (.tail _ (.tail _ (.head _)))
 have hstep:(fr+1+1+1,CeP (some (.int step st)))∈X++(lawC f c' fr nl step st qual doc pm ctv t m++(G0++Lr)):=List.mem_append_right _ (.tail _ (.tail _ (.tail _ (.head _))))
 have hnl:(nl,NowP t m)∈X++(lawC f c' fr nl step st qual doc pm ctv t m++(G0++Lr)):=List.mem_append_right _ (.tail _ (.tail _ (.tail _ (.tail _ (.head _)))))
 unfold body1407 bodyOf
 show wpAny c.M _ (execs [_,_,_,_,_,_] _) _ _ s
 walk_at "g"
 refine x_modi ‹_› (by decide) fun dt s S=>?_
 walk_at "g"
 refine x_divi ‹_› (by decide) (by decide) fun kt1 s S=>?_
 walk_at "g"
 refine x_modi ‹_› (by decide) fun kt s S=>?_
 walk_at "g"
 refine x_divi ‹_› (by decide) (by decide) fun vt1 s S=>?_
 walk_at "g"
 refine x_modi ‹_› (by decide) fun vt s S=>?_
 walk_at "g"
 refine now_get1 ‹_› (by walk_at "m") fun mt=>?_
 walk_at "g"
 refine Assign_Tuple ?_
 walk_at "g"
 refine To.K keep1402 ?_
 walk_at "g"
 refine now_get0 ‹_› (by walk_at "m") fun tt=>?_
 walk_at "g"
 rename_i s S
 have lrs:((rs.map Rw.p).length:Int)≤max M.room 0:=M.len g
 rw [List.length_map] at lrs
 have hz:rs.length≤4:=rs4 lrs (by first | exact hr4 | (rw [hroom]; exact hr4))
 have S:St c ((da,LiP (refs rs))::(fr,Nm ((113,.int m mt)::(15,.int ((n.fdiv 28).fmod 30) vt)::(11,.int ((n.fdiv 7).fmod 4) kt)::(94,.int (n.fmod 7) dt)::l))::(X++(lawC f c' fr nl step st qual doc pm ctv t m++(G0++Lr)))) s:=S.perm (by walk_at "d")
 refine ⟨⟨_,S⟩,law_due S (by have:=ok.depth; rw [depth_deeper]; lia) ok.handled (by have:=ok.units; show A.units+3+20<_; lia) hz (fun r hr=>.tail _ (List.mem_append_right _ (List.mem_append_right _ (List.mem_append_right _ (hm r hr))))) (by have:=M.nodup g; rwa [keys_mapR] at this) (by lia) (fun z=>by have:=M.dry g (by lia); rwa [List.map_eq_nil_iff] at this) hl0 fun x b D u rs' Y N s e1 hY hm' S=>?_⟩
 refine Ret.ok ?_
 refine x_unpackNN S (by walk_at "m") ok.handled fun s S=>?_
 iterate 2 walk_at "go"
 rename_i s S
 refine Seq.next ?_
 have S:=S.dropAt (p:=(x,_)) (by walk_at "k")
 have S:St c (X++((lawK c f c' fr nl step st qual doc pm ctv).G t m++((fr,Nm ((89,.ref D)::(114,.ref b)::(113,.int m mt)::(15,.int ((n.fdiv 28).fmod 30) vt)::(11,.int ((n.fdiv 7).fmod 4) kt)::(94,.int (n.fmod 7) dt)::l))::(D,LiP (refs rs'))::(Y++(N++(G0++Lr)))))) s:=S.perm (by walk_at "d")
 have hd7:n.fmod 7≤6:=by have:=Int.fmod_lt_of_pos n (b:=7) (by decide); lia
 walk_at "g"
 refine To.K keep1390 ?_
 walk_at "g"
 refine ⟨⟨_,S⟩,law_deed g hB (LawR.deepC ok (by walk_at "m") fun p hp=>by walk_at "m") hd7 (by rw [List.length_map]; exact hz) S fun b' u' ps' Y' X' s e2 hY' g' S=>?_⟩
 subst hroom hlast
 have e3:(u',ps')=(u,rs'.map Rw.p):=e2.trans e1.symm
 have e4:u'=u:=congrArg Prod.fst e3
 have e5:ps'=rs'.map Rw.p:=congrArg Prod.snd e3
 subst e4 e5
 have hnow':(fr+1+1,CeP (some (.ref nl)))∈X'++((lawK c f c' fr nl step st qual doc pm ctv).G (t+step) (m+1)++((fr,Nm ((89,.ref D)::(114,.ref b)::(113,.int m mt)::(15,.int ((n.fdiv 28).fmod 30) vt)::(11,.int ((n.fdiv 7).fmod 4) kt)::(94,.int (n.fmod 7) dt)::l))::(D,LiP (refs rs'))::(Y++(N++(G0++Lr))))):=List.mem_append_right _ (.tail _ (.tail _ (.head _)))
 have hnl':(nl,NowP (t+step) (m+1))∈X'++((lawK c f c' fr nl step st qual doc pm ctv).G (t+step) (m+1)++((fr,Nm ((89,.ref D)::(114,.ref b)::(113,.int m mt)::(15,.int ((n.fdiv 28).fmod 30) vt)::(11,.int ((n.fdiv 7).fmod 4) kt)::(94,.int (n.fmod 7) dt)::l))::(D,LiP (refs rs'))::(Y++(N++(G0++Lr))))):=List.mem_append_right _ (.tail _ (.tail _ (.tail _ (.tail _ (.head _)))))
 have S:St c (Y'++(X'++((lawK c f c' fr nl step st qual doc pm ctv).G (t+step) (m+1)++((fr,Nm ((89,.ref D)::(114,.ref b)::(113,.int m mt)::(15,.int ((n.fdiv 28).fmod 30) vt)::(11,.int ((n.fdiv 7).fmod 4) kt)::(94,.int (n.fmod 7) dt)::l))::(D,LiP (refs rs'))::(Y++(N++(G0++Lr))))))) s:=S
 walk_at "g"
 refine a_ne S hY' hY (fun p hp=>by walk_at "m") (fun p hp=>by walk_at "m") (by have:=ok.units; show A.units+3+2<_; lia) ?_
 walk_at "g"
 refine now_get1 ‹_› (List.mem_append_right _ hnl') fun mt'=>?_
 walk_at "g"
 refine PyProof.Rows.ne_int ?_
 rw [show (m+1 != m+1)=false by simp]
 walk_at "g"
 rename_i S
 have S:=S.dropG
 have S:=(S.pickG (G:=Y) (by walk_at "K")).dropG
 refine ⟨.inl rfl,(89,.ref D)::(114,.ref b)::(113,.int m mt)::(15,.int ((n.fdiv 28).fmod 30) vt)::(11,.int ((n.fdiv 7).fmod 4) kt)::(94,.int (n.fmod 7) dt)::l,D,rs',X',N,⟨h99,h93,rfl,g',fun r hr=>?_⟩,S.perm (by walk_at "d")⟩
 rcases hm' r hr with h | h
 ·exact List.mem_append_right _ (hm r h)
 ·exact List.mem_append_left _ h
noncomputable def law_end_P (G0:List Cell) (M:Mem c (lawK c f c' fr nl step st qual doc pm ctv)):Prop:=∀ (ok:LawR A Lr) (i:LawI M room rt Lr t B l da rs X) (hroom:M.room=room) (hlast:M.last=last) (hr0:0≤room) (hr4:room≤4) (hl0:0≤last) (hcl:(fr+1,CeP (some (.int last lt)))∈M.hold++Lr) (hB:B+1≤600) (S:St c ((fr,Nm l)::(da,LiP (refs rs))::(X++(lawC f c' fr nl step st qual doc pm ctv t m++(G0++Lr)))) s),wpAny c.M (A.deeper (envC 1407 fd1407 fr)) (execs end1407 (envC 1407 fd1407 fr)) (fun f' s'=>f'=.ret (.bool true)∧∃ L',St c L' s') E s
set_option maxHeartbeats 1000000 in
theorem law_end {G0:List Cell}{M:Mem c (lawK c f c' fr nl step st qual doc pm ctv)}:@law_end_P c s A E fr f c' nl room last step t m rt lt st qual doc pm ctv l B X Lr da rs G0 M:=by
 revert c s A E fr f c' nl room last step t m rt lt st qual doc pm ctv l B X Lr da rs G0 M
 walk_at "e9"; intro c s A E fr f c' nl room
 walk_at "e9"; intro last step t m rt lt st qual doc
 walk_at "e9"; intro pm ctv l B X Lr da rs G0
 walk_at "e1"; intro M
 intro ok i hroom hlast hr0 hr4 hl0 hcl hB S
 obtain ⟨h99,h93,h89,g,hm⟩:=i
 have F:=fn1407
 have hlastc:(fr+1,CeP (some (.int last lt)))∈X++(lawC f c' fr nl step st qual doc pm ctv t m++(G0++Lr)):=by
  rcases List.mem_append.mp hcl with h | h
  ·exact List.mem_append_left _ (M.holds g _ h)
  ·exact List.mem_append_right _ (List.mem_append_right _ (List.mem_append_right _ h))
 have hnow:(fr+1+1,CeP (some (.ref nl)))∈X++(lawC f c' fr nl step st qual doc pm ctv t m++(G0++Lr)):=List.mem_append_right _ (.tail _ (.tail _ (.head _)))
 have hstep:(fr+1+1+1,CeP (some (.int step st)))∈X++(lawC f c' fr nl step st qual doc pm ctv t m++(G0++Lr)):=List.mem_append_right _ (.tail _ (.tail _ (.tail _ (.head _))))
 have hnl:(nl,NowP t m)∈X++(lawC f c' fr nl step st qual doc pm ctv t m++(G0++Lr)):=List.mem_append_right _ (.tail _ (.tail _ (.tail _ (.tail _ (.head _)))))
 unfold end1407 bodyOf
 show wpAny c.M _ (execs [_,_] _) _ _ s
 refine x_cons ?_
 refine Assign_Tuple ?_
 walk_at "g"
 refine To.K keep1402 ?_
 walk_at "g"
 refine now_get0 ‹_› (by walk_at "m") fun tt=>?_
 walk_at "g"
 rename_i s S
 have lrs:((rs.map Rw.p).length:Int)≤max M.room 0:=M.len g
 rw [List.length_map] at lrs
 have hz:rs.length≤4:=rs4 lrs (by first | exact hr4 | (rw [hroom]; exact hr4))
 have S:St c ((da,LiP (refs rs))::(fr,Nm (l))::(X++(lawC f c' fr nl step st qual doc pm ctv t m++(G0++Lr)))) s:=S.perm (by walk_at "d")
 refine ⟨⟨_,S⟩,law_due S (by have:=ok.depth; rw [depth_deeper]; lia) ok.handled (by have:=ok.units; show A.units+3+20<_; lia) hz (fun r hr=>.tail _ (List.mem_append_right _ (List.mem_append_right _ (List.mem_append_right _ (hm r hr))))) (by have:=M.nodup g; rwa [keys_mapR] at this) (by lia) (fun z=>by have:=M.dry g (by lia); rwa [List.map_eq_nil_iff] at this) hl0 fun x b D u rs' Y N s e1 hY hm' S=>?_⟩
 refine Ret.ok ?_
 refine x_unpackNN S (by walk_at "m") ok.handled fun s S=>?_
 iterate 2 walk_at "go"
 rename_i s S
 refine Seq.next ?_
 have S:=S.dropAt (p:=(x,_)) (by walk_at "k")
 have S:St c (X++((lawK c f c' fr nl step st qual doc pm ctv).G t m++((fr,Nm ((89,.ref D)::(114,.ref b)::l))::(D,LiP (refs rs'))::(Y++(N++(G0++Lr)))))) s:=S.perm (by walk_at "d")
 walk_at "g"
 refine x_and2 ?_
 walk_at "g"
 refine To.K keep1390 ?_
 walk_at "g"
 rename_i s S
 refine ⟨⟨_,S⟩,law_deed g (by lia) (LawR.deepC ok (by walk_at "m") fun p hp=>by walk_at "m") (by decide) (by rw [List.length_map]; exact hz) S fun b' u' ps' Y' X' s e2 hY' g' S=>?_⟩
 subst hroom hlast
 have e3:(u',ps')=(u,rs'.map Rw.p):=e2.trans e1.symm
 have e4:u'=u:=congrArg Prod.fst e3
 have e5:ps'=rs'.map Rw.p:=congrArg Prod.snd e3
 subst e4 e5
 have hnow':(fr+1+1,CeP (some (.ref nl)))∈X'++((lawK c f c' fr nl step st qual doc pm ctv).G (t+step) (m+1)++((fr,Nm ((89,.ref D)::(114,.ref b)::l))::(D,LiP (refs rs'))::(Y++(N++(G0++Lr))))):=List.mem_append_right _ (.tail _ (.tail _ (.head _)))
 have hnl':(nl,NowP (t+step) (m+1))∈X'++((lawK c f c' fr nl step st qual doc pm ctv).G (t+step) (m+1)++((fr,Nm ((89,.ref D)::(114,.ref b)::l))::(D,LiP (refs rs'))::(Y++(N++(G0++Lr))))):=List.mem_append_right _ (.tail _ (.tail _ (.tail _ (.tail _ (.head _)))))
 have S:St c (Y'++(X'++((lawK c f c' fr nl step st qual doc pm ctv).G (t+step) (m+1)++((fr,Nm ((89,.ref D)::(114,.ref b)::l))::(D,LiP (refs rs'))::(Y++(N++(G0++Lr))))))) s:=S
 walk_at "g"
 refine a_eq S hY' hY (fun p hp=>by walk_at "m") (fun p hp=>by walk_at "m") (by have:=ok.units; show A.units+3+2<_; lia) ?_
 walk_at "g"
 have S:=S.dropG
 have inst:=M.inst g'
 have hcx:(M.ca,InstP M.C M.cd)∈X':=inst.1
 obtain ⟨PP,hcd⟩:=inst.2
 refine i_len S (l:=(89,.ref D)::(114,.ref b)::l) (by walk_at "m") (List.mem_append_left _ hcx) (List.mem_append_left _ hcd) M.sp_len ?_
 have okL:=LawR.deepC ok (fr:=fr) (l:=(89,.ref D)::(114,.ref b)::l) (L':=(fr,Nm ((89,.ref D)::(114,.ref b)::l))::(D,LiP (refs rs'))::(Y++(N++(G0++Lr)))) (by walk_at "m") fun p hp=>by walk_at "m"
 have ok2:Ok (A.deeper (envC 1407 fd1407 fr)).in1 ((fr,Nm ((89,.ref D)::(114,.ref b)::l))::(D,LiP (refs rs'))::(Y++(N++(G0++Lr)))):=⟨by have:=okL.depth; show (A.deeper (envC 1407 fd1407 fr)).depth+20<_; lia,by have:=okL.units; show (A.deeper (envC 1407 fd1407 fr)).units+1+100<_; lia,okL.handled,okL.frs⟩
 refine M.size g' hB ok2 S fun X2 tk s g2 S=>?_
 have lrs2:=M.len g2
 refine Ret.ok ⟨_,tk,rfl,by lia,by lia,_,S,fun tk s S=>?_⟩
 walk_at "g"
 refine PyProof.Rows.le_int ?_
 rw [decide_eq_true (by lia)]
 walk_at "g"
 exact ⟨rfl,_,S⟩
end
end
section
local macro_rules | `(tactic| walk_at "nm")=>`(tactic| first
 | refine e_localC ‹_› ‹_› (by walk_at "m") (by walk_at "i") (by decide) (by rfl) (by first | rfl | assumption) ?_
 | refine e_cellC ‹_› ‹_› (by walk_at "i") (by decide) (by rfl) (by rfl) (by first | assumption | walk_at "m") ?_
 | refine e_globalC ‹_› ‹_› (by walk_at "i") (by decide) (by rfl) (by rfl) ?_
 | refine e_builtinC ‹_› ‹_› (by walk_at "i") (by decide) (by rfl) (by rfl) ?_)
section
variable {env:Env}{fr:Addr}{f c' nl:Addr}{room last step t m:Int}{rt lt st:Tok}{qual:Str}{doc pm ctv:Value}{l:List (Nat × Value)}{X Lr:List Cell}{na:Addr}{nv:List Value}{nums:List Int}
theorem ints_at {vs:List Value}{ns:List Int} (h:IntsAre vs ns):∀ {i:Nat}{v:Value},vs[i]? = some v→∃ n t,v=.int n t:=by
 induction h with
 | nil=>intro i v e; simp at e
 | cons n t _ ih =>
  intro i v e
  cases i with
  | zero=>exact ⟨n,t,by simpa using e.symm⟩
  | succ i=>exact ih (by simpa using e)
theorem i600 {i n:Nat} (h:i<n-1) (h2:n≤40):i≤600:=Nat.le_trans (Nat.le_of_lt h) (Nat.le_trans (Nat.sub_le n 1) (Nat.le_trans h2 (by decide)))
noncomputable def law_tail_P (M:Mem c (lawK c f c' fr nl step st qual doc pm ctv)):Prop:=∀ (ok:LawR A Lr) (h99:l.lookup 99=some (.int room rt)) (h93:l.lookup 93=some (.ref M.ca)) (h109:l.lookup 109=some (.ref na)) (hna:(na,LiP nv)∈Lr) (hi:IntsAre nv nums) (hz:nv.length≤40) (hroom:M.room=room) (hlast:M.last=last) (hr0:0≤room) (hr4:room≤4) (hl0:0≤last) (hcl:(fr+1,CeP (some (.int last lt)))∈M.hold++Lr) (g:M.G [] t 0 X) (S:St c ((fr,Nm l)::(X++(lawC f c' fr nl step st qual doc pm ctv t 0++Lr))) s),wpAny c.M (A.deeper (envC 1407 fd1407 fr)) (execs tail1407 (envC 1407 fd1407 fr)) (fun f' s'=>f'=.ret (.bool true)∧∃ L',St c L' s') E s
theorem law_tail {M:Mem c (lawK c f c' fr nl step st qual doc pm ctv)}:@law_tail_P c s A E fr f c' nl room last step t rt lt st qual doc pm ctv l X Lr na nv nums M:=by
 revert c s A E fr f c' nl room last step t rt lt st qual doc pm ctv l X Lr na nv nums M
 walk_at "e9"; intro c s A E fr f c' nl room
 walk_at "e9"; intro last step t rt lt st qual doc pm
 walk_at "e5"; intro ctv l X Lr na
 walk_at "e2"; intro nv nums
 walk_at "e1"; intro M
 intro ok h99 h93 h109 hna hi hz hroom hlast hr0 hr4 hl0 hcl g S
 have F:=fn1407
 unfold tail1407 bodyOf
 show wpAny c.M _ (execs (_::.For _ _ _ _ _::end1407) _) _ _ s
 walk_at "g"
 rename_i da _ _ s S
 have S:St c ((fr,Nm ((89,.ref da)::l))::(da,LiP (refs []))::(X++(lawC f c' fr nl step st qual doc pm ctv t 0++Lr))) s:=S.perm (by walk_at "d")
 refine x_for (fun _=>rfl) ok.handled ?_
 walk_at "g"
 refine x_tail ‹_› (xs:=nv) (.tail _ (.tail _ (List.mem_append_right _ (List.mem_append_right _ hna)))) (by lia) fun d s S=>?_
 refine ⟨d,nv.drop 1,_,rfl,S,fun i L1=>∃ l' da' rs' X' N m' t',LawI M room rt (N++Lr) t' i l' da' rs' X'∧L1=(fr,Nm l')::(da',LiP (refs rs'))::(X'++(lawC f c' fr nl step st qual doc pm ctv t' m'++(N++Lr))),?_,?_,?_,?_⟩
 ·exact ⟨(89,.ref da)::l,da,[],X,[],0,t,⟨h99,h93,rfl,g,fun _ h=>nomatch h⟩,rfl⟩
 ·rintro i L1 ⟨l',da',rs',X',N,m',t',_,rfl⟩
  exact ⟨_,.head _,trivial⟩
 ·rintro i v I L1 s E' hv ⟨l',da',rs',X',N,m',t',inv,rfl⟩ S
  obtain ⟨n,nt,rfl⟩:=ints_at (hi.drop 1) hv
  have hlt:i<(nv.drop 1).length:=(List.getElem?_eq_some_iff.mp hv).1
  rw [List.length_drop] at hlt
  walk_at "go"
  rename_i s S
  show wpAny c.M _ (execs body1407 _) _ _ _
  have S:St c ((fr,Nm ((112,.int n nt)::l'))::(da',LiP (refs rs'))::(X'++(lawC f c' fr nl step st qual doc pm ctv t' m'++([(I,LI d (i+1)),(d,LiP (nv.drop 1))]++(N++Lr))))) s:=by
   simp only [List.cons_append,List.nil_append]
   exact S.perm (by walk_at "d")
  refine wpAny_mono (law_turn (lt:=lt) (n:=n) (nt:=nt) (l:=(112,.int n nt)::l') ⟨ok.depth,ok.units,ok.handled,ok.frs.sub fun p hp=>List.mem_append_right _ hp⟩ ⟨inv.h99,inv.h93,inv.h89,inv.g,inv.hm⟩ rfl hroom hlast hr0 hr4 hl0 ?_ (i600 hlt hz) S) (fun f' s2 z=>?_) fun _ _ z=>z
  ·rcases List.mem_append.mp hcl with h | h
   ·exact List.mem_append_left _ h
   ·exact List.mem_append_right _ (List.mem_append_right _ h)
  ·obtain ⟨hf,l2,da2,rs2,X2,N2,inv2,S2⟩:=z
   refine ⟨hf,(fr,Nm l2)::(da2,LiP (refs rs2))::(X2++(lawC f c' fr nl step st qual doc pm ctv (t'+step) (m'+1)++(N2++(N++Lr)))),⟨l2,da2,rs2,X2,N2++N,m'+1,t'+step,by rw [List.append_assoc]; exact inv2,by rw [List.append_assoc]⟩,?_⟩
   simp only [List.cons_append,List.nil_append] at S2
   exact S2.perm (by walk_at "d")
 ·rintro L1 s ⟨l',da',rs',X',N,m',t',inv,rfl⟩ S
  have S:=S.dropAt (p:=(d,_)) (by walk_at "k")
  refine Seq.next ?_
  refine law_end (lt:=lt) (G0:=[]) (B:=(nv.drop 1).length) (l:=l') ⟨ok.depth,ok.units,ok.handled,ok.frs.sub fun p hp=>List.mem_append_right _ hp⟩ ⟨inv.h99,inv.h93,inv.h89,inv.g,inv.hm⟩ hroom hlast hr0 hr4 hl0 ?_ (by rw [List.length_drop]; exact Nat.le_trans (Nat.succ_le_succ (Nat.le_trans (Nat.sub_le _ 1) hz)) (by decide)) S
  rcases List.mem_append.mp hcl with h | h
  ·exact List.mem_append_left _ h
  ·exact List.mem_append_right _ (List.mem_append_right _ h)
end
end
section
local macro_rules | `(tactic| walk_at "nm")=>`(tactic| first
 | refine e_localC ‹_› ‹_› (by walk_at "m") (by walk_at "i") (by decide) (by rfl) (by first | rfl | assumption) ?_
 | refine e_cellC ‹_› ‹_› (by walk_at "i") (by decide) (by rfl) (by rfl) (by first | assumption | walk_at "m") ?_
 | refine e_globalC ‹_› ‹_› (by walk_at "i") (by decide) (by rfl) (by rfl) ?_
 | refine e_builtinC ‹_› ‹_› (by walk_at "i") (by decide) (by rfl) (by rfl) ?_)
section
variable {env:Env}{fr a P:Addr}{vs:List Value}{ns:List Int}
theorem St.baseList (S:St c L s) (h:c.h₀.IsList a vs.toArray):s.heap.IsList a vs.toArray:=by
 obtain ⟨o,e,r⟩:=h
 exact ⟨o,S.base _ _ e,r⟩
noncomputable def modsOf (ns:List Int):List Int:=(ns.take 30).map fun n=>n.fmod 1000000007
noncomputable def numsOf (ns:List Int):List Int:=modsOf ns++[31,28,3,35,41,6]
theorem ck1407 (n:Nat):cellsK n tb1407 []=[(110,n+1+1),(100,n+1),(101,n)]:=by rfl
noncomputable def rest1407:List Stmt:=(bodyOf fd1407).drop 5
noncomputable def made1407:List Stmt:=(bodyOf fd1407).drop 8
noncomputable abbrev lawFr (na a:Addr) (n0:Int) (rt:Tok):List (Nat × Value):=[(111,.bool ((n0.fdiv 90).fmod 2 == 0 && decide (0<(n0.fdiv 5).fmod 6))),(99,.int (n0.fmod 5) rt),(109,.ref na),(106,.ref a)]
theorem x_def {name:Str}{params:Arguments}{body rest:List Stmt}{scope:Scope}{pos:Pos}{clos:List (Str × Addr)}{ps:Array Value}{kx:Nat}{l:List (Nat × Value)}{Q:Flow→Shared→Prop} (S:St c ((fr,Nm l)::L) s) (hk:c.k=[(P,tabObj ps)]) (n:Nst c 1406 P)
  (hx:N[kx]? = some name) (hkx:tb1407.lookup kx=some .local) (ht:TriplesOk ps.toList) (hnf:codeAmong pos ps.toList=none) (hcl:closureFor scope (envC 1407 fd1407 fr)=pure clos) (hd0:params.defaults=[]) (hk0:params.kw_defaults=[]) (ha:annTrees params none (envC 1407 fd1407 fr)=[])
  (h:∀ f c' ctv doc pm qual s',St { c with k:=[(P,tabObj (ps++#[rawInt pos.line,rawInt pos.col,.ref c']))] } ((fr,Nm ((kx,.ref f)::l))::(f,(· = fnMade name qual params body scope clos doc pm c' ctv))::(c',CoP qual)::L) s' →
   wpAny (Cx.M { c with k:=[(P,tabObj (ps++#[rawInt pos.line,rawInt pos.col,.ref c']))] }) A (execs rest (envC 1407 fd1407 fr)) Q E s') :
  wpAny c.M A (exec (.FunctionDef name params body [] none [] scope none name pos) (envC 1407 fd1407 fr)) (Seq c A (envC 1407 fd1407 fr) rest Q E) E s:=by
 refine nestDef_K hd0 hk0 ha ?_
 refine x_make S hk n rfl rfl ht hnf hcl fun f c' ctv doc pm s S=>?_
 have S2:=S.perm (L':=(fr,Nm l)::(f,(· = fnMade name (qualnameIn (envC 1407 fd1407 fr) name name) params body scope clos doc pm c' ctv))::(c',CoP (qualnameIn (envC 1407 fd1407 fr) name name))::L) (by exact ixd [2] rfl)
 have key:wpAny (Cx.M { c with k:=[(P,tabObj (ps++#[rawInt pos.line,rawInt pos.col,.ref c']))] }) A (storeName (envC 1407 fd1407 fr) name (.ref f)) (fun _ s''=>Seq c A (envC 1407 fd1407 fr) rest Q E .next s'') E s :=
  a_localC S2 fn1407 .here hx hkx fun s S=>h f c' ctv doc pm _ s S
 exact key
noncomputable abbrev unCells (f c' cl:Addr) (last:Int) (lt:Tok) (qual:Str) (doc pm ctv:Value):List Cell:=[(f,(· = ({ cls:=.type "function", data:=.func (unFd cl c' qual doc pm ctv) }:Obj))),(c',CoP qual),(cl,CeP (some (.int last lt)))]
noncomputable def law_made_P (na fk ck fu cu nl:Addr) (nv:List Value) (nums:List Int) (n0 t0:Int) (rt lt st:Tok) (q1 q2:Str) (d1 p1 v1 d2 p2 v2:Value) (Q:Flow→Shared→Prop):Prop:=∀ (hd:A.depth+40<recursionLimit) (hu:A.units+130<cLine) (hh:A.handled=none) (hfr:A.frames=some []) (hnv:IntsAre nv nums) (lnv:nv.length≤40) (S:St c ((fr,Nm ((108,.ref fu)::(107,.ref fk)::lawFr na a n0 rt))::(na,LiP nv)::(lawC fk ck fr nl ((n0.fdiv 30).fmod 3) st q1 d1 p1 v1 t0 0++unCells fu cu (fr+1) ((n0.fdiv 5).fmod 6) lt q2 d2 p2 v2)) s) (h:∀ L' s',St c L' s'→Q (.ret (.bool true)) s'),wpAny c.M (A.deeper (envC 1407 fd1407 fr)) (execs made1407 (envC 1407 fd1407 fr)) Q E s
theorem law_made {na fk ck fu cu nl:Addr}{nv:List Value}{nums:List Int}{n0 t0:Int}{rt lt st:Tok}{q1 q2:Str}{d1 p1 v1 d2 p2 v2:Value}{Q:Flow→Shared→Prop}:@law_made_P c s A E fr a na fk ck fu cu nl nv nums n0 t0 rt lt st q1 q2 d1 p1 v1 d2 p2 v2 Q:=by
 revert c s A E fr a na fk ck fu cu nl nv nums n0 t0 rt lt st q1 q2 d1 p1 v1 d2 p2 v2 Q
 walk_at "e9"; intro c s A E fr a na fk ck
 walk_at "e9"; intro fu cu nl nv nums n0 t0 rt lt
 walk_at "e9"; intro st q1 q2 d1 p1 v1 d2 p2 v2
 walk_at "e1"; intro Q
 intro hd hu hh hfr hnv lnv S h
 have F:=fn1407
 have r0:0≤n0.fmod 5:=Int.fmod_nonneg_of_pos _ (by decide)
 have r5:n0.fmod 5<5:=Int.fmod_lt_of_pos _ (by decide)
 have l0:0≤(n0.fdiv 5).fmod 6:=Int.fmod_nonneg_of_pos _ (by decide)
 have s0:0≤(n0.fdiv 30).fmod 3:=Int.fmod_nonneg_of_pos _ (by decide)
 unfold made1407 bodyOf
 show wpAny c.M _ (execs (_::tail1407) _) _ _ s
 refine x_cons (wpAny_Assign_Name (x_ifexp ?_))
 walk_at "g"
 refine ⟨fun e=>?_,fun e=>?_⟩
 ·have hl:0<(n0.fdiv 5).fmod 6:=by
   rw [Bool.and_eq_true,decide_eq_true_eq] at e
   exact e.2
  walk_at "g"
  refine To.K keepC1155 ?_
  walk_at "g"
  have S:St c ((lawK c fk ck fr nl ((n0.fdiv 30).fmod 3) st q1 d1 p1 v1).G t0 0++((fr,Nm ((108,.ref fu)::(107,.ref fk)::lawFr na a n0 rt))::(na,LiP nv)::unCells fu cu (fr+1) ((n0.fdiv 5).fmod 6) lt q2 d2 p2 v2)) s:=S.perm (by exact ixe 2 0 [] rfl rfl rfl)
  refine ⟨⟨_,S⟩,make_ttl S (by rw [depth_deeper]; lia) r0 (by lia) hl s0 fun M X s m1 m2 g S=>?_⟩
  refine Ret.ok ?_
  walk_at "go"
  rename_i s S
  refine Seq.next (wpAny_mono (law_tail (room:=n0.fmod 5) (last:=(n0.fdiv 5).fmod 6) (rt:=rt) (lt:=lt) (l:=(93,.ref M.ca)::(108,.ref fu)::(107,.ref fk)::lawFr na a n0 rt) (Lr:=(na,LiP nv)::unCells fu cu (fr+1) ((n0.fdiv 5).fmod 6) lt q2 d2 p2 v2) ⟨by lia,hu,hh,⟨[],hfr,fun _ h=>nomatch h⟩⟩ rfl rfl rfl (.head _) hnv lnv m1 m2 r0 (by lia) l0 (List.mem_append_right _ (.tail _ (.tail _ (.tail _ (.head _))))) g (S.perm (by walk_at "d"))) (fun f' s' z=>?_) fun _ _ z=>z)
  obtain ⟨rfl,L',S'⟩:=z
  exact h L' s' S'
 ·walk_at "g"
  refine To.K keepC1373 ?_
  walk_at "g"
  have S:St c ((lawK c fk ck fr nl ((n0.fdiv 30).fmod 3) st q1 d1 p1 v1).G t0 0++((lawUn c fu cu (fr+1) ((n0.fdiv 5).fmod 6) lt q2 d2 p2 v2).G++((fr,Nm ((108,.ref fu)::(107,.ref fk)::lawFr na a n0 rt))::(na,LiP nv)::[]))) s:=S.perm (by walk_at "d")
  refine ⟨⟨_,S⟩,make_tlru S (by rw [depth_deeper]; lia) r0 fun M X s m1 m2 m3 g S=>?_⟩
  refine Ret.ok ?_
  walk_at "go"
  rename_i s S
  refine Seq.next (wpAny_mono (law_tail (room:=n0.fmod 5) (last:=(n0.fdiv 5).fmod 6) (rt:=rt) (lt:=lt) (l:=(93,.ref M.ca)::(108,.ref fu)::(107,.ref fk)::lawFr na a n0 rt) (Lr:=(na,LiP nv)::[]) ⟨by lia,hu,hh,⟨[],hfr,fun _ h=>nomatch h⟩⟩ rfl rfl rfl (.head _) hnv lnv m1 m2 r0 (by lia) l0 (List.mem_append_left _ (by rw [m3]; exact .tail _ (.tail _ (.head _)))) g (S.perm (by walk_at "d"))) (fun f' s' z=>?_) fun _ _ z=>z)
  obtain ⟨rfl,L',S'⟩:=z
  exact h L' s' S'
noncomputable def law_rest_P (na:Addr) (nv:List Value) (nums:List Int) (n0:Int) (n0t rt lt st:Tok) (Q:Flow→Shared→Prop):Prop:=∀ (hk:c.k=[(P,tabObj #[])]) (n:Nst c 1406 P) (hd:A.depth+40<recursionLimit) (hu:A.units+130<cLine) (hh:A.handled=none) (hfr:A.frames=some []) (hnv:IntsAre nv nums) (lnv:nv.length≤40) (hn0:nv[0]? = some (.int n0 n0t)) (S:St c [(na,LiP nv),(fr,Nm (lawFr na a n0 rt)),(fr+1+1+1,CeP (some (.int ((n0.fdiv 30).fmod 3) st))),(fr+1+1,CeP none),(fr+1,CeP (some (.int ((n0.fdiv 5).fmod 6) lt)))] s) (h:∀ ps L' s',St { c with k:=[(P,tabObj ps)] } L' s'→Q (.ret (.bool true)) s'),wpAny c.M (A.deeper (envC 1407 fd1407 fr)) (execs rest1407 (envC 1407 fd1407 fr)) Q E s
set_option maxHeartbeats 1000000 in
theorem law_rest {na:Addr}{nv:List Value}{nums:List Int}{n0:Int}{n0t rt lt st:Tok}{Q:Flow→Shared→Prop}:@law_rest_P c s A E fr a P na nv nums n0 n0t rt lt st Q:=by
 revert c s A E fr a P na nv nums n0 n0t rt lt st Q
 walk_at "e9"; intro c s A E fr a P na nv
 walk_at "e5"; intro nums n0 n0t rt lt
 walk_at "e2"; intro st Q
 intro hk n hd hu hh hfr hnv lnv hn0 S h
 have F:=fn1407
 have lnv2:nv.length≤1000:=by lia
 unfold rest1407 bodyOf
 show wpAny c.M _ (execs (_::_::_::_::tail1407) _) _ _ s
 walk_at "g"
 refine l_item ‹_› (xs:=nv) (by walk_at "m") hn0 lnv2 ?_
 walk_at "g"
 refine x_modi ‹_› (by decide) fun tt s S=>?_
 walk_at "g"
 rename_i mt _ _ nl _ _ s S
 have S:St c [(na,LiP nv),(fr,Nm (lawFr na a n0 rt)),(nl,LiP [.int (n0.fmod 4) tt,.int 0 mt]),(fr+1+1+1,CeP (some (.int ((n0.fdiv 30).fmod 3) st))),(fr+1+1,CeP (some (.ref nl))),(fr+1,CeP (some (.int ((n0.fdiv 5).fmod 6) lt)))] s:=S.perm (by exact ixd [1,1] rfl)
 refine x_def (S.perm (L':=(fr,Nm (lawFr na a n0 rt))::(na,LiP nv)::(nl,LiP [.int (n0.fmod 4) tt,.int 0 mt])::(fr+1+1+1,CeP (some (.int ((n0.fdiv 30).fmod 3) st)))::(fr+1+1,CeP (some (.ref nl)))::[(fr+1,CeP (some (.int ((n0.fdiv 5).fmod 6) lt)))]) (by exact ixd [1] rfl)) hk n ix107 rfl trivial rfl (by rfl) rfl rfl rfl fun fk ck v1 d1 p1 q1 s S=>?_
 refine x_cons (x_def S rfl (n.keepk _) ix108 rfl trivial rfl (by rfl) rfl rfl rfl fun fu cu v2 d2 p2 q2 s S=>?_)
 have S:=S.weak (a:=nl) (P':=NowP (n0.fmod 4) 0) (by walk_at "r") (by intro o z; exact ⟨(tt,mt),z⟩)
 refine law_made (a:=a) (na:=na) (n0:=n0) (rt:=rt) (lt:=lt) (st:=st) (fk:=fk) (ck:=ck) (fu:=fu) (cu:=cu) (nl:=nl) (q1:=q1) (d1:=d1) (p1:=p1) (v1:=v1) (q2:=q2) (d2:=d2) (p2:=p2) (v2:=v2) (t0:=n0.fmod 4) hd hu hh hfr hnv lnv ?_ fun L' s' S=>h _ L' s' S
 exact S.perm (by walk_at "d")
noncomputable def law_walk_P:Prop:=∀ (hk:c.k=[(P,tabObj #[])]) (n:Nst c 1406 P) (hd:A.depth+40<recursionLimit) (hu:A.units+130<cLine) (hh:A.handled=none) (hfr:A.frames=some []) (S:St c [] s) (hl:c.h₀.IsList a vs.toArray) (hi:IntsAre vs ns) (hz:vs.length≤63) (h:∀ ps L' s',St { c with k:=[(P,tabObj ps)] } L' s'→R (.ok (.ret (.bool true))) s'),codeAny c.M A (.call (.ref 1407) ⟨[.ref a],[]⟩) R s
set_option maxHeartbeats 1000000 in
theorem law_walk:@law_walk_P c s A R a P vs ns:=by
 revert c s A R a P vs ns
 walk_at "e5"; intro c s A R a
 walk_at "e2"; intro P vs
 walk_at "e1"; intro ns
 intro hk n hd hu hh hfr S hl hi hz h
 refine f_callC fn1407 [(106,.ref a)] S (by lia) (by rfl) (by kernel_rfl!) (by kernel_rfl!) (by kernel_rfl!) (fun n=>by rw [ck1407]; simp [List.lookup]) (fun n k=>by rw [ck1407,ck1407]; simp only [List.lookup]; cases k == 110 <;> cases k == 100 <;> cases k == 101 <;> rfl) ?_
 intro fr s S
 have F:=fn1407
 have S:St c ((fr,Nm [(106,.ref a)])::(fr+1+1+1,CeP none)::(fr+1+1,CeP none)::(fr+1,CeP none)::[]) s:=S
 walk_at "g"
 refine x_listcomp (kx:=112) (cl:=[]) ix112 (by rfl) (by decide) (by rfl) (by decide) (by rfl) (fun _=>rfl) hh ?_
 walk_at "g"
 refine x_upto (k:=30) S (S.baseList hl) (by lia) fun d s S=>?_
 refine ⟨d,vs.take 30,_,rfl,S,by rw [List.length_take]; lia,fun i ys X=>X=[]∧IntsAre ys ((modsOf ns).take i),⟨rfl,.nil⟩,?_,?_,?_⟩
 ·rintro i ys X ⟨_,h⟩
  rw [h.length]
  exact List.length_take_le _ _
 ·rintro i v ys X C I D s' E' hv ⟨rfl,hys⟩ S
  obtain ⟨m,mt,rfl⟩:=ints_at (hi.take 30) hv
  have hm:(ns.take 30)[i]? = some m:=by
   have hlt:i<(ns.take 30).length:=by rw [← (hi.take 30).length]; exact (List.getElem?_eq_some_iff.mp hv).1
   obtain ⟨t',e⟩:=(hi.take 30).get i ((ns.take 30)[i]) (List.getElem?_eq_getElem hlt)
   rw [hv] at e
   rw [List.getElem?_eq_getElem hlt]
   exact congrArg some (Value.int.inj (Option.some.inj e)).1.symm
  refine Tst.nil (Br.t (wpAny_BinOp (c_local S (by rfl) (by rfl) (.head _) ix112 (by decide) rfl (x_int S fun tk s2 S=>x_modi S (by decide) fun tk2 s3 S=>⟨[],⟨rfl,?_⟩,S⟩))))
  rw [List.take_add_one]
  unfold modsOf
  rw [List.getElem?_map,hm]
  exact IntsAre.snoc hys
 ·rintro D ys X s ⟨rfl,hys⟩ S
  have S:=S.dropAt (p:=(d,_)) (by walk_at "k")
  have e30:(modsOf ns).take (vs.take 30).length=modsOf ns:=by
   refine List.take_of_length_le ?_
   rw [(hi.take 30).length]
   unfold modsOf
   rw [List.length_map]
   exact Nat.le_refl _
  rw [e30] at hys
  have S:St c [(D,LiP ys),(fr,Nm [(106,.ref a)]),(fr+1+1+1,CeP none),(fr+1+1,CeP none),(fr+1,CeP none)] s:=S
  have lys:ys.length≤30:=by
   rw [hys.length]
   unfold modsOf
   rw [List.length_map]
   exact List.length_take_le _ _
  walk_at "g"
  refine l_add ‹_› (a:=D) (xs:=ys) (by walk_at "m") (by walk_at "m") (by simp only [List.length_cons,List.length_nil]; lia) fun na s S=>?_
  have S:∃ nv,IntsAre nv (numsOf ns)∧nv.length≤40∧St c [(na,LiP nv),(fr,Nm [(106,.ref a)]),(fr+1+1+1,CeP none),(fr+1+1,CeP none),(fr+1,CeP none)] s :=
   ⟨_,hys.append (.cons 31 _ (.cons 28 _ (.cons 3 _ (.cons 35 _ (.cons 41 _ (.cons 6 _ .nil)))))),by simp only [List.length_append,List.length_cons,List.length_nil]; lia,(S.dropAt (.there .here)).dropAt (.there .here)⟩
  obtain ⟨nv,hnv,lnv,S⟩:=S
  have l0:0<nv.length:=by
   rw [hnv.length]
   unfold numsOf
   rw [List.length_append]
   simp only [List.length_cons,List.length_nil]
   lia
  have hn0:nv[0]? = some nv[0]:=List.getElem?_eq_getElem l0
  obtain ⟨n0,n0t,e0⟩:=ints_at hnv hn0
  rw [e0] at hn0
  clear hys e30 lys e0
  have lnv2:nv.length≤1000:=by lia
  walk_at "g"
  refine l_item ‹_› (xs:=nv) (by walk_at "m") hn0 lnv2 ?_
  walk_at "g"
  refine x_modi ‹_› (by decide) fun rt s S=>?_
  walk_at "g"
  refine l_item ‹_› (xs:=nv) (by walk_at "m") hn0 lnv2 ?_
  walk_at "g"
  refine x_divi ‹_› (by decide) (by decide) fun _ s S=>?_
  walk_at "g"
  refine x_modi ‹_› (by decide) fun lt s S=>?_
  walk_at "g"
  refine l_item ‹_› (xs:=nv) (by walk_at "m") hn0 lnv2 ?_
  walk_at "g"
  refine x_divi ‹_› (by decide) (by decide) fun _ s S=>?_
  walk_at "g"
  refine x_modi ‹_› (by decide) fun st s S=>?_
  walk_at "g"
  rename_i s S
  refine wpAny_mono (Q:=fun v s'=>v=.bool ((n0.fdiv 90).fmod 2 == 0 && decide (0<(n0.fdiv 5).fmod 6))∧St c [(na,LiP nv),(fr,Nm [(99,.int (n0.fmod 5) rt),(109,.ref na),(106,.ref a)]),(fr+1+1+1,CeP (some (.int ((n0.fdiv 30).fmod 3) st))),(fr+1+1,CeP none),(fr+1,CeP (some (.int ((n0.fdiv 5).fmod 6) lt)))] s') ?_ (fun v s z=>?_) (fun _ _ z=>z)
  ·refine x_and2 ?_
   walk_at "g"
   refine l_item ‹_› (xs:=nv) (by walk_at "m") hn0 lnv2 ?_
   walk_at "g"
   refine x_divi ‹_› (by decide) (by decide) fun _ s S=>?_
   walk_at "g"
   refine x_modi ‹_› (by decide) fun _ s S=>?_
   walk_at "g"
   refine ⟨fun e=>?_,fun e=>?_⟩
   ·rw [e]
    walk_at "g"
    exact ⟨rfl,‹_›⟩
   ·rw [e]
    exact ⟨rfl,‹_›⟩
  obtain ⟨rfl,S⟩:=z
  refine a_localC S F (by walk_at "r") ix111 (by rfl) fun s S=>Seq.next ?_
  show wpAny c.M _ (execs rest1407 _) _ _ _
  refine law_rest (Q:=Back R) hk n hd hu hh hfr hnv lnv hn0 S fun ps L' s' S=>h ps L' s' S
end
end
end
section
theorem K_noTabs (P:Params):noTabs (Mine.K P)=true:=by kernel_rfl!
theorem K_tab (P:Params):tabIn (Mine.K P) (Str.ofString "law")=some (1406,1404):=by kernel_rfl!
theorem K_law (P:Params):nsIn (Mine.K P) mainGlobals (Str.ofString "law")=some (some (.ref 1407)):=by kernel_rfl!
theorem law_done {w:World}{s₁:Shared}{mg mb:Str→Option Value}{p:Program}{loose:List Str}{mean mean':ExcName→Option Value}{d:DefRec}{fa a:Addr}{vs:List Value}{ns:List Int}{cw:ClaimW}{cl:Str→Option Addr}{args:List WData}
  (T:PyProof.Rows.Top p loose mean mg mb s₁.heap) (KX:(Mine.K w.params).In s₁.heap) (hd:(recsOf p).find? (fun e=>e.name == Str.ofString "law")=some d) (hg:s₁.gens = #[]) (hmg:mg (Str.ofString "law")=some (.ref fa))
  (hL:s₁.heap.IsList a vs.toArray) (hI:IntsAre vs ns) (hz:vs.length≤63) (hr:∀ x y,cw.raises x y=false) (hp:cw.post args (.bool true) args=true) :
  codeAny (model pw w) callerA (.call (.ref fa) ⟨[.ref a],[]⟩) (GoodWG cw cl mean' args s₁) s₁:=by
 have h1:=mg_of KX T.g (K_law _)
 rw [hmg] at h1
 have h2:fa=1407:=Value.ref.inj (Option.some.inj h1)
 subst h2
 obtain ⟨t1,t2⟩:=tab_of T KX hd (K_tab _)
 have hT:TabsAt [(1406,1404)] s₁.heap:=fun q hq=>by
  rw [List.mem_singleton] at hq
  subst hq
  exact ⟨t1,t2⟩
 refine kn_post hT hr ?_
 have hP0:(ghostOf s₁.heap [(1406,1404)]).get? 1404=none:=hideAll_none _ (.head _)
 let c:Cx:=⟨w,ghostOf s₁.heap [(1406,1404)],mg,mb,[(1404,tabObj #[])],s₁.os⟩
 have ok:c.Ok:=⟨ghost_K hT KX (K_noTabs _),ghost_ns hT T.g,ghost_ns hT T.b,(let ⟨mc,x,r⟩:=T.nolimit; ⟨mc,ghost_ns hT x,r⟩),T.builtins,fun q hq=>by
  rw [List.mem_singleton] at hq
  subst hq
  exact hP0,List.pairwise_singleton _ _⟩
 have S:Mine.St c [] s₁:=⟨ok,fun b o e=>of_hideAll _ e,(fun _ h=>nomatch h),(fun _ h=>nomatch h),.nil,hg,(fun _ h=>nomatch h),Nat.le_of_eq (hideAll_size _ _),fun q hq=>by
  rw [List.mem_singleton] at hq
  subst hq
  exact t2,(fun _ h=>nomatch h),rfl⟩
 have gne:(mainGlobals:Addr)≠1404:=by decide
 have bi:c.h₀.BuiltinsAt c.mg 1404:=by
  obtain ⟨bm,ob,b1,b2,b3,b4,b5,b6⟩:=T.bmain
  refine ⟨bm,ob,b1,b2,fun q=>?_,fun q=>?_,ghost_get hT b3 (fun q=>by rw [q] at b4; cases b4),b4,b5,b6⟩
  ·obtain ⟨o,es,ep,e,hd,_⟩:=T.g
   rw [q,e] at b3; cases b3; rw [hd] at b6; cases b6
  ·rw [q,t2] at b3; cases b3; cases b4
 refine law_walk (c:=c) (P:=1404) (vs:=vs) (ns:=ns) rfl ⟨(ghost_code hT).1,bi,gne⟩ (by decide +kernel) (by decide +kernel) rfl rfl S (ghost_list hT hL) hI hz fun ps L' s' S'=>?_
 refine ⟨⟨.inl ⟨.bool true,.bool true,[],rfl,fun x=>hr _ _,.bool true,hp,fun _=>⟨.nil,(fun _ h=>nomatch h)⟩⟩,S'.base,S'.os,S'.gens⟩,⟨ps,S'.kept (1404,tabObj ps) (.head _)⟩,trivial⟩
end
end Mine
open PySem PySem.W PyProof.Rows
set_option maxRecDepth 100000 in
set_option maxHeartbeats 8000000 in
theorem PySem.Challenge.cw_ki0008_02_holds : PySem.Challenge.rw_ki0008_02.Holds := by
 w_on
 refine holds_law Mine.Hd.h_said (fun said => ?_)
 obtain ⟨d,e1,e2,e3,e5,e4⟩:=Mine.Hd.h_ex
 refine holds_open (q:=Mine.Hd.hq) (loose:=Mine.Hd.hLoose) (Xt:=Mine.Hd.hXt) (XP:=XL Mine.Hd.hq []) (Yf:=Hook.obs (kHook Mine.K Mine.Hd.hAs (fun _ => by kernel_rfl))) (Ya:=Hook.val (kHook Mine.K Mine.Hd.hAs (fun _ => by kernel_rfl))) (YP:=Hook.says (kHook Mine.K Mine.Hd.hAs (fun _ => by kernel_rfl))) (N:=20000) Mine.Hd.h_left (Hook.of _) (Hook.keeps _) (fun s e => xl_of s e) XL.keeps e1 e3 e4 (fun s _ => recFacts_nil (by rfl)) (by rfl) said (by decide +kernel) Mine.Hd.h_bare ?hw ?hc
 (case hw => w_witness2)
 intro w s₀ s₁ mg mb G Y fa o pm cd doc dV kV ho hd hcd hD hmg hg args vals as hpre hlay hrd hwl hlo
 have KX:=kIn_of Y
 refine Ground.open G ?_
 intro T B D TE TW
 clear hD hcd hd
 wrow_args hpre hlay hrd hwl hlo
 all_goals refine enter_call ?_
 exact Mine.law_done T KX e2 hg (by rw [← e5]; exact hmg) (by assumption) (by assumption) (by have:=IntsAre.length (by assumption); omega) (fun _ _ => rfl) (by wrow_post)
