import PyProof.Rows.All
import Wide.All
import OpenK.AllK
import Wide.FinOn
import Lean
import PySem.Challenge.RW_rt0098_01
open PySem PySem.W PyProof.Rows
set_option Elab.async false
set_option maxRecDepth 100000
set_option maxHeartbeats 0
set_option linter.unusedVariables false
set_option hygiene false
set_option tactic.hygienic false
set_option compiler.extract_closed false
set_option bootstrap.genMatcherCode false
set_option genSizeOf false
set_option genInjectivity false
namespace Mine
theorem n_t {n m k:Nat} (u:n≤m) (v:m≤k):n≤k:=Nat.le_trans u v
theorem n_e {n m:Nat} (u:n=m):n≤m:=Nat.le_of_eq u
noncomputable abbrev PW:Program:=PySem.Challenge.pw_rt0098_01
noncomputable def kpB:List Nat->Option Stmt
 |[i]=>PW.main.body[i]?
 |[i,j]=>match PW.main.body[i]? with
  |some (.ClassDef _ _ _ b ..)=>b[j]?
  |_=>none
 |_=>none
noncomputable def kp (p:List Nat):Arguments×List Stmt×Scope:=match kpB p with
 |some (.FunctionDef _ a b _ _ _ s ..)=>(a,b,s)
 |_=>default
noncomputable abbrev pr4_1:{ x:Arguments×List Stmt×Scope // x=kp [4,1] }:=by
 refine ⟨?x,?h⟩
 case h=>(conv=>rhs;whnf)
noncomputable abbrev pr6_0:{ x:Arguments×List Stmt×Scope // x=kp [6,0] }:=by
 refine ⟨?x,?h⟩
 case h=>(conv=>rhs;whnf)
noncomputable abbrev pr6_1:{ x:Arguments×List Stmt×Scope // x=kp [6,1] }:=by
 refine ⟨?x,?h⟩
 case h=>(conv=>rhs;whnf)
noncomputable abbrev pr6_2:{ x:Arguments×List Stmt×Scope // x=kp [6,2] }:=by
 refine ⟨?x,?h⟩
 case h=>(conv=>rhs;whnf)
noncomputable abbrev pr6_3:{ x:Arguments×List Stmt×Scope // x=kp [6,3] }:=by
 refine ⟨?x,?h⟩
 case h=>(conv=>rhs;whnf)
noncomputable abbrev pr6_4:{ x:Arguments×List Stmt×Scope // x=kp [6,4] }:=by
 refine ⟨?x,?h⟩
 case h=>(conv=>rhs;whnf)
noncomputable abbrev pr6_5:{ x:Arguments×List Stmt×Scope // x=kp [6,5] }:=by
 refine ⟨?x,?h⟩
 case h=>(conv=>rhs;whnf)
noncomputable abbrev pr6_6:{ x:Arguments×List Stmt×Scope // x=kp [6,6] }:=by
 refine ⟨?x,?h⟩
 case h=>(conv=>rhs;whnf)
noncomputable abbrev pr6_7:{ x:Arguments×List Stmt×Scope // x=kp [6,7] }:=by
 refine ⟨?x,?h⟩
 case h=>(conv=>rhs;whnf)
noncomputable abbrev pr6_8:{ x:Arguments×List Stmt×Scope // x=kp [6,8] }:=by
 refine ⟨?x,?h⟩
 case h=>(conv=>rhs;whnf)
noncomputable abbrev pr6_9:{ x:Arguments×List Stmt×Scope // x=kp [6,9] }:=by
 refine ⟨?x,?h⟩
 case h=>(conv=>rhs;whnf)
noncomputable abbrev pr15:{ x:Arguments×List Stmt×Scope // x=kp [15] }:=by
 refine ⟨?x,?h⟩
 case h=>(conv=>rhs;whnf)
noncomputable abbrev pr19:{ x:Arguments×List Stmt×Scope // x=kp [19] }:=by
 refine ⟨?x,?h⟩
 case h=>(conv=>rhs;whnf)
noncomputable abbrev pr20:{ x:Arguments×List Stmt×Scope // x=kp [20] }:=by
 refine ⟨?x,?h⟩
 case h=>(conv=>rhs;whnf)
noncomputable abbrev pr21:{ x:Arguments×List Stmt×Scope // x=kp [21] }:=by
 refine ⟨?x,?h⟩
 case h=>(conv=>rhs;whnf)
noncomputable abbrev pr22:{ x:Arguments×List Stmt×Scope // x=kp [22] }:=by
 refine ⟨?x,?h⟩
 case h=>(conv=>rhs;whnf)
noncomputable abbrev pr23:{ x:Arguments×List Stmt×Scope // x=kp [23] }:=by
 refine ⟨?x,?h⟩
 case h=>(conv=>rhs;whnf)
noncomputable abbrev pr25:{ x:Arguments×List Stmt×Scope // x=kp [25] }:=by
 refine ⟨?x,?h⟩
 case h=>(conv=>rhs;whnf)
noncomputable abbrev pr26_1:{ x:Arguments×List Stmt×Scope // x=kp [26,1] }:=by
 refine ⟨?x,?h⟩
 case h=>(conv=>rhs;whnf)
noncomputable abbrev pr28:{ x:Arguments×List Stmt×Scope // x=kp [28] }:=by
 refine ⟨?x,?h⟩
 case h=>(conv=>rhs;whnf)
noncomputable abbrev pr30:{ x:Arguments×List Stmt×Scope // x=kp [30] }:=by
 refine ⟨?x,?h⟩
 case h=>(conv=>rhs;whnf)
noncomputable abbrev pr31:{ x:Arguments×List Stmt×Scope // x=kp [31] }:=by
 refine ⟨?x,?h⟩
 case h=>(conv=>rhs;whnf)
noncomputable abbrev pr32:{ x:Arguments×List Stmt×Scope // x=kp [32] }:=by
 refine ⟨?x,?h⟩
 case h=>(conv=>rhs;whnf)
noncomputable abbrev pr33:{ x:Arguments×List Stmt×Scope // x=kp [33] }:=by
 refine ⟨?x,?h⟩
 case h=>(conv=>rhs;whnf)
noncomputable abbrev pr34:{ x:Arguments×List Stmt×Scope // x=kp [34] }:=by
 refine ⟨?x,?h⟩
 case h=>(conv=>rhs;whnf)
noncomputable abbrev pr35:{ x:Arguments×List Stmt×Scope // x=kp [35] }:=by
 refine ⟨?x,?h⟩
 case h=>(conv=>rhs;whnf)
noncomputable abbrev pr36:{ x:Arguments×List Stmt×Scope // x=kp [36] }:=by
 refine ⟨?x,?h⟩
 case h=>(conv=>rhs;whnf)
noncomputable def kv (x:String) (t:Tok):Value:=.str (Str.ofString x) t
noncomputable def kt (l:List Value):Obj:={ cls:=.type "tuple",data:=.seq l.toArray }
noncomputable def kd (P:Params) (n:Nat) (l:List (String×Tok×Value)):Obj:={ cls:=.type "dict",data:=.dict (l.map λe=>{ hash:=PyData.keyHash P (Str.ofString e.1),key:=.str (Str.ofString e.1) e.2.1,val:=e.2.2 }).toArray n }
noncomputable def kc (name qual:String) (t:Tok) (line nargs flags:Int) (a1 a2:Addr) (x y:Value) (a5:Addr) (t2:Int) (t3:Tok):Obj:=
 {cls:=.type "code",data:=.fields #[kv name t,kv qual (t + 1),kv "/claim/cut.py" (t + 2),.int line 0,.int nargs 0,.int 0 0,.int 0 0,.int flags 0,.ref a1,.bool true,.int 181 0,.ref a2,.none,x,y,.ref a5,.int t2 0,.int line 0,kv "/claim/cut.py" t3] }
noncomputable def kf (name qual:String) (p:Arguments×List Stmt×Scope) (dv:Value) (md:String) (t:Tok) (c:Addr):Obj:=
 {cls:=.type "function",data:=.func { name:=Str.ofString name,qualname:=Str.ofString qual,params:=p.1,body:=.stmts p.2.1,scope:=p.2.2,globals:=3,closure:=[],defaults:=dv,kwdefaults:=.none,pyModule:=kv md t,code:=.ref c } }
noncomputable def kK (P:Params):Frag:=
 (nat_lit 3,kd P 36 [("__name__",165,kv "law_rt0098_01" 588),("__doc__",166,.none),("__package__",167,.none),("__loader__",168,.builtin "__main__.__loader__#opaque"),("__spec__",169,.none),("__annotations__",170,.ref 6),("__builtins__",171,.ref 4),("__file__",173,kv "/claim/cut.py" 172),("__cached__",174,.none),("_wall",193,.ref 21),("_NODE_OUT",198,.int (-1) 197),("_NODE_DONE",201,.int (-2) 200),("_NodeInfo",238,.ref 40),("CycleError",256,.ref 55),("TopologicalSorter",375,.ref 137),("_plain_name",386,.ref 148),("ABCMeta",412,.ref 165),("_ABCLike",455,.ref 198),("_abc_plain_meta",462,.ref 207),("fspath",474,.ref 214),("_check_arg_types",487,.ref 221),("_get_sep",496,.ref 228),("join",507,.ref 235),("basename",516,.ref 242),("dirname",526,.ref 249),("commonpath",532,.ref 254),("get_parent_map",544,.ref 261),("_SelectorContext",574,.ref 278),("SubElement",587,.ref 291),("_law_thing",598,.ref 298),("_law_grown",611,.ref 305),("_law_came",623,.ref 312),("_law_laid",634,.ref 319),("_law_read",640,.ref 324),("_law_due",646,.ref 329),("law",652,.ref 334)]) ::
 (nat_lit 29,kt [kv "node" 214,kv "npredecessors" 215,kv "successors" 216]) ::
 (nat_lit 35,kc "__init__" "_NodeInfo.__init__" 218 10 2 3 30 31 (.ref 32) (.ref 33) 34 223 224) ::
 (nat_lit 36,kf "__init__" "_NodeInfo.__init__" pr4_1.1 (.none) "cpy313.graphlib" 194 35) ::
 (nat_lit 37,kt [kv "node" 226,kv "npredecessors" 227,kv "successors" 228]) ::
 (nat_lit 39,kd P 5 [("__module__",209,kv "cpy313.graphlib" 194),("__firstlineno__",213,.int 7 212),("__slots__",217,.ref 29),("__init__",225,.ref 36),("__static_attributes__",229,.ref 37),("node",231,.ref 41),("npredecessors",233,.ref 42),("successors",235,.ref 43),("__doc__",236,.none)]) ::
 (nat_lit 40,{ cls:=.type "type",data:=Data.cls { name:=Str.ofString "_NodeInfo",bases:=[.type "object"],mro:=[.ref 40,.type "object"],ns:=39,qualname:=Str.ofString "_NodeInfo",hasDict:=false,slotNames:=[Str.ofString "node",Str.ofString "npredecessors",Str.ofString "successors"] },slots:=#[none,none,some (kv "_NodeInfo" 202),some (kv "_NodeInfo" 210),some (.builtin "object.__new__"),some (.bool false)] }) ::
 (nat_lit 41,{ cls:=.type "member_descriptor",data:=Data.fields #[kv "node" 230,.ref 40,.builtin "proto.slot",.builtin "proto.slot#set",.int 2 0] }) ::
 (nat_lit 42,{ cls:=.type "member_descriptor",data:=Data.fields #[kv "npredecessors" 232,.ref 40,.builtin "proto.slot",.builtin "proto.slot#set",.int 1 0] }) ::
 (nat_lit 43,{ cls:=.type "member_descriptor",data:=Data.fields #[kv "successors" 234,.ref 40,.builtin "proto.slot",.builtin "proto.slot#set",.int 0 0] }) ::
 (nat_lit 46,kt [.type "ValueError"]) ::
 (nat_lit 53,kt []) ::
 (nat_lit 54,kd P 3 [("__module__",246,kv "cpy313.graphlib" 194),("__firstlineno__",250,.int 14 249),("__static_attributes__",251,.ref 53),("__weakref__",253,.ref 56),("__doc__",254,.none)]) ::
 (nat_lit 55,{ cls:=.type "type",data:=Data.cls { name:=Str.ofString "CycleError",bases:=[.type "ValueError"],mro:=[.ref 55,.type "ValueError",.type "Exception",.type "BaseException",.type "object"],ns:=54,qualname:=Str.ofString "CycleError" },slots:=#[some (.ref 46),none,some (kv "CycleError" 239),some (kv "CycleError" 247),some (.builtin "ValueError.__new__"),some (.bool true)] }) ::
 (nat_lit 56,{ cls:=.type "getset_descriptor",data:=Data.fields #[kv "__weakref__" 252,.ref 55,.builtin "ExceptionGroup.__weakref__",.none] }) ::
 (nat_lit 66,kt [.none]) ::
 (nat_lit 72,kc "__init__" "TopologicalSorter.__init__" 269 18 2 3 67 68 (.ref 69) (.ref 70) 71 276 277) ::
 (nat_lit 73,kf "__init__" "TopologicalSorter.__init__" pr6_0.1 (.ref 66) "cpy313.graphlib" 194 72) ::
 (nat_lit 79,kc "_get_nodeinfo" "TopologicalSorter._get_nodeinfo" 279 27 2 3 74 75 (.ref 76) (.ref 77) 78 285 286) ::
 (nat_lit 80,kf "_get_nodeinfo" "TopologicalSorter._get_nodeinfo" pr6_1.1 (.none) "cpy313.graphlib" 194 79) ::
 (nat_lit 86,kc "add" "TopologicalSorter.add" 288 32 2 7 81 82 (.ref 83) (.ref 84) 85 297 298) ::
 (nat_lit 87,kf "add" "TopologicalSorter.add" pr6_2.1 (.none) "cpy313.graphlib" 194 86) ::
 (nat_lit 91,kc "prepare" "TopologicalSorter.prepare" 300 41 1 3 88 89 (.none) (.none) 90 303 304) ::
 (nat_lit 92,kf "prepare" "TopologicalSorter.prepare" pr6_3.1 (.none) "cpy313.graphlib" 194 91) ::
 (nat_lit 98,kc "get_ready" "TopologicalSorter.get_ready" 306 49 1 3 93 94 (.ref 95) (.ref 96) 97 313 314) ::
 (nat_lit 99,kf "get_ready" "TopologicalSorter.get_ready" pr6_4.1 (.none) "cpy313.graphlib" 194 98) ::
 (nat_lit 106,kf "is_active" "TopologicalSorter.is_active" pr6_5.1 (.none) "cpy313.graphlib" 194 105) ::
 (nat_lit 113,kf "__bool__" "TopologicalSorter.__bool__" pr6_6.1 (.none) "cpy313.graphlib" 194 112) ::
 (nat_lit 119,kc "done" "TopologicalSorter.done" 330 68 1 7 114 115 (.ref 116) (.ref 117) 118 341 342) ::
 (nat_lit 120,kf "done" "TopologicalSorter.done" pr6_7.1 (.none) "cpy313.graphlib" 194 119) ::
 (nat_lit 126,kc "_find_cycle" "TopologicalSorter._find_cycle" 344 91 1 3 121 122 (.ref 123) (.ref 124) 125 354 355) ::
 (nat_lit 127,kf "_find_cycle" "TopologicalSorter._find_cycle" pr6_8.1 (.none) "cpy313.graphlib" 194 126) ::
 (nat_lit 134,kf "static_order" "TopologicalSorter.static_order" pr6_9.1 (.none) "cpy313.graphlib" 194 133) ::
 (nat_lit 135,kt [kv "_nfinished" 364,kv "_node2info" 365,kv "_npassedout" 366,kv "_ready_nodes" 367]) ::
 (nat_lit 136,kd P 4 [("__module__",264,kv "cpy313.graphlib" 194),("__firstlineno__",268,.int 16 267),("__init__",278,.ref 73),("_get_nodeinfo",287,.ref 80),("add",299,.ref 87),("prepare",305,.ref 92),("get_ready",315,.ref 99),("is_active",322,.ref 106),("__bool__",329,.ref 113),("done",343,.ref 120),("_find_cycle",356,.ref 127),("static_order",363,.ref 134),("__static_attributes__",368,.ref 135),("__dict__",370,.ref 138),("__weakref__",372,.ref 139),("__doc__",373,.none)]) ::
 (nat_lit 137,{ cls:=.type "type",data:=Data.cls { name:=Str.ofString "TopologicalSorter",bases:=[.type "object"],mro:=[.ref 137,.type "object"],ns:=136,qualname:=Str.ofString "TopologicalSorter" },slots:=#[none,none,some (kv "TopologicalSorter" 257),some (kv "TopologicalSorter" 265),some (.builtin "object.__new__"),some (.bool true)] }) ::
 (nat_lit 138,{ cls:=.type "getset_descriptor",data:=Data.fields #[kv "__dict__" 369,.ref 137,.builtin "function.__dict__",.builtin "function.__dict__#set"] }) ::
 (nat_lit 139,{ cls:=.type "getset_descriptor",data:=Data.fields #[kv "__weakref__" 371,.ref 137,.builtin "ExceptionGroup.__weakref__",.none] }) ::
 (nat_lit 213,kc "fspath" "fspath" 465 153 1 3 208 209 (.ref 210) (.ref 211) 212 472 473) ::
 (nat_lit 214,kf "fspath" "fspath" pr15.1 (.none) "os" 463 213) ::
 (nat_lit 227,kc "_get_sep" "_get_sep" 490 182 1 3 222 223 (.ref 224) (.ref 225) 226 494 495) ::
 (nat_lit 228,kf "_get_sep" "_get_sep" pr19.1 (.none) "cpy313.posixpath" 488 227) ::
 (nat_lit 234,kc "join" "join" 497 187 1 7 229 230 (.ref 231) (.ref 232) 233 505 506) ::
 (nat_lit 235,kf "join" "join" pr20.1 (.none) "cpy313.posixpath" 488 234) ::
 (nat_lit 241,kc "basename" "basename" 508 204 1 3 236 237 (.ref 238) (.ref 239) 240 514 515) ::
 (nat_lit 242,kf "basename" "basename" pr21.1 (.none) "cpy313.posixpath" 488 241) ::
 (nat_lit 248,kc "dirname" "dirname" 517 209 1 3 243 244 (.ref 245) (.ref 246) 247 524 525) ::
 (nat_lit 249,kf "dirname" "dirname" pr22.1 (.none) "cpy313.posixpath" 488 248) ::
 (nat_lit 253,kc "commonpath" "commonpath" 527 217 1 3 250 251 (.none) (.none) 252 530 531) ::
 (nat_lit 254,kf "commonpath" "commonpath" pr23.1 (.none) "cpy313.posixpath" 488 253) ::
 (nat_lit 260,kc "get_parent_map" "get_parent_map" 535 247 1 3 255 256 (.ref 257) (.ref 258) 259 542 543) ::
 (nat_lit 261,kf "get_parent_map" "get_parent_map" pr25.1 (.none) "cpy313.xml.etree.ElementPath" 533 260) ::
 (nat_lit 274,kc "__init__" "_SelectorContext.__init__" 558 258 2 3 269 270 (.ref 271) (.ref 272) 273 563 564) ::
 (nat_lit 275,kf "__init__" "_SelectorContext.__init__" pr26_1.1 (.none) "cpy313.xml.etree.ElementPath" 533 274) ::
 (nat_lit 276,kt [kv "root" 566]) ::
 (nat_lit 277,kd P 4 [("__module__",552,kv "cpy313.xml.etree.ElementPath" 533),("__firstlineno__",556,.int 255 555),("parent_map",557,.none),("__init__",565,.ref 275),("__static_attributes__",567,.ref 276),("__dict__",569,.ref 279),("__weakref__",571,.ref 280),("__doc__",572,.none)]) ::
 (nat_lit 278,{ cls:=.type "type",data:=Data.cls { name:=Str.ofString "_SelectorContext",bases:=[.type "object"],mro:=[.ref 278,.type "object"],ns:=277,qualname:=Str.ofString "_SelectorContext" },slots:=#[none,none,some (kv "_SelectorContext" 545),some (kv "_SelectorContext" 553),some (.builtin "object.__new__"),some (.bool true)] }) ::
 (nat_lit 279,{ cls:=.type "getset_descriptor",data:=Data.fields #[kv "__dict__" 568,.ref 278,.builtin "function.__dict__",.builtin "function.__dict__#set"] }) ::
 (nat_lit 280,{ cls:=.type "getset_descriptor",data:=Data.fields #[kv "__weakref__" 570,.ref 278,.builtin "ExceptionGroup.__weakref__",.none] }) ::
 (nat_lit 283,{ cls:=.type "dict",data:=Data.dict #[] }) ::
 (nat_lit 284,kt [.ref 283]) ::
 (nat_lit 290,kc "SubElement" "SubElement" 577 261 3 11 285 286 (.ref 287) (.ref 288) 289 585 586) ::
 (nat_lit 291,kf "SubElement" "SubElement" pr28.1 (.ref 284) "cpy313.xml.etree.ElementTree" 575 290) ::
 (nat_lit 297,kc "_law_thing" "_law_thing" 590 267 1 3 292 293 (.ref 294) (.ref 295) 296 596 597) ::
 (nat_lit 298,kf "_law_thing" "_law_thing" pr30.1 (.none) "law_rt0098_01" 588 297) ::
 (nat_lit 304,kc "_law_grown" "_law_grown" 599 274 2 3 299 300 (.ref 301) (.ref 302) 303 609 610) ::
 (nat_lit 305,kf "_law_grown" "_law_grown" pr31.1 (.none) "law_rt0098_01" 588 304) ::
 (nat_lit 311,kc "_law_came" "_law_came" 612 281 1 3 306 307 (.ref 308) (.ref 309) 310 621 622) ::
 (nat_lit 312,kf "_law_came" "_law_came" pr32.1 (.none) "law_rt0098_01" 588 311) ::
 (nat_lit 318,kc "_law_laid" "_law_laid" 624 294 2 3 313 314 (.ref 315) (.ref 316) 317 632 633) ::
 (nat_lit 319,kf "_law_laid" "_law_laid" pr33.1 (.none) "law_rt0098_01" 588 318) ::
 (nat_lit 323,kc "_law_read" "_law_read" 635 303 2 3 320 321 (.none) (.none) 322 638 639) ::
 (nat_lit 324,kf "_law_read" "_law_read" pr34.1 (.none) "law_rt0098_01" 588 323) ::
 (nat_lit 328,kc "_law_due" "_law_due" 641 315 1 3 325 326 (.none) (.none) 327 644 645) ::
 (nat_lit 329,kf "_law_due" "_law_due" pr35.1 (.none) "law_rt0098_01" 588 328) ::
 (nat_lit 333,kc "law" "law" 647 326 1 3 330 331 (.none) (.none) 332 650 651) ::
 (nat_lit 334,kf "law" "law" pr36.1 (.none) "law_rt0098_01" 588 333) :: []
noncomputable def kAs:List Addr:=[3,29,35,36,37,39,40,41,42,43,46,53,54,55,56,66,72,73,79,80,86,87,91,92,98,99,106,113,119,120,126,127,134,135,136,137,138,139,213,214,227,228,234,235,241,242,248,249,253,254,260,261,274,275,276,277,278,279,280,283,284,290,291,297,298,304,305,311,312,318,319,323,324,328,329,333,334]
noncomputable def kq:Program:={ PW with main:={ PW.main with body:=[0,2,3,4,5,6,8,10,12,13,15,17,19,20,21,22,23,25,26,30,31,32,33,34,35,36].filterMap (PW.main.body[·]?) } }
theorem kAs_eq (P:Params):kAs=(kK P).map (·.1):=by kernel_rfl
noncomputable def H4:Hook:=kmHook kK kAs kAs_eq [321,293]
noncomputable def lo4:List Str:=[Str.ofString "_NodeInfo",Str.ofString "_SelectorContext",Str.ofString "SubElement"]
noncomputable abbrev R4:=PySem.Challenge.rw_rt0098_01.row
noncomputable def tRun (p:Program) (w:World) (m:Nat) (ann:Option Value):Nat->SharedT->Thread->Option SharedT
 |0,_,_=>none
 |n + 1,s,t=>bif through t then some s else bif stepOk m ann t then (stepT (denote treeTable) p w s t).bind λr=>tRun p w m ann n r.1 r.2 else none
theorem tRun_s {p:Program} {w:World} {m:Nat} {ann:Option Value} {n:Nat} {s:SharedT} {t:Thread}:tRun p w m ann (n + 1) s t=bif through t then some s else bif stepOk m ann t then (stepT (denote treeTable) p w s t).bind λr=>tRun p w m ann n r.1 r.2 else none:=rfl
theorem tRun_of {p:Program} {w:World} {m:Nat} {ann:Option Value} {n:Nat}:∀ {s:SharedT} {t:Thread} {s':SharedT},tRun p w m ann n s t=some s'->topRun treeTable p w m ann n s.abs t=some s'.abs:=by
 induction n with
 |zero=>intro s t s' h;cases h
 |succ n ih=>
  intro s t s' h;rw [tRun_s] at h;unfold topRun;cases ht:through t with
  |true=>rw [ht] at h;cases h;rfl
  |false=>
   rw [ht] at h;cases hk:stepOk m ann t with
   |false=>rw [hk] at h;cases h
   |true=>
    rw [hk] at h;cases hs:stepT (denote treeTable) p w s t with
    |none=>rw [hs] at h;cases h
    |some r=>rw [hs] at h;rw [stepT_spec (s':=r.1) (t':=r.2) hs];exact ih h
noncomputable def tOf:List Obj->Nat->BT->Option BT
 |[],_,t=>some t
 |o :: r,n,t=>bif ((t.ins n o).get n).isSome then tOf r (n + 1) (t.ins n o) else none
theorem tOf_of {life:Life} {l:List Obj}:∀ {n:Nat} {t t':BT},tOf l n t=some t'->absHeap t' (n + l.length) life=⟨(absHeap t n life).objs ++ l.toArray,life⟩:=by
 induction l with
 |nil=>intro n t t' h;cases h;exact congrArg (Heap.mk · life) Array.append_empty.symm
 |cons o r ih=>
  intro n t t' h;change (bif ((t.ins n o).get n).isSome then tOf r (n + 1) (t.ins n o) else none)=_ at h;cases hg:((t.ins n o).get n).isSome with
  |false=>rw [hg] at h;cases h
  |true=>
   rw [hg] at h;have:=ih h;rw [absHeap_ins hg,Nat.add_right_comm] at this;refine this.trans (congrArg (Heap.mk · life) ?_);show (absHeap t n life).objs.push o ++ _=_;simp
noncomputable def tEnds (p:Program) (w:World) (N:Nat):Option Shared:=(fencedOpening treeTable p w N).bind λs=>bif s.heap.isNs mainGlobals && s.gens.size == 0 then
 (tOf s.heap.objs.toList 0 .nil).bind λt=>(tRun p w s.heap.objs.size (s.heap.nsMap mainGlobals "__annotations__") N ⟨t,0 + s.heap.objs.toList.length,s.heap.life,s.gens,s.drawn,s.toks,s.os⟩ (topStub p)).bind λr=>
  bif staticsOk (importedModules p.main.body) s.heap r.abs.heap && namesBound p r.abs.heap && gensDone r.abs && laidKept s.heap r.abs.heap then some r.abs else none
 else none
theorem tEnds_of {p:Program} {w:World} {N:Nat} {s':Shared} (h:tEnds p w N=some s'):openEnds treeTable p w N=some s':=by
 obtain ⟨s,h1,h2⟩:=Option.bind_eq_some_iff.mp h;unfold openEnds;rw [h1];show topFrom treeTable p w N s=_;unfold topFrom;cases q:s.heap.isNs mainGlobals && s.gens.size == 0 with
 |false=>rw [q] at h2;cases h2
 |true=>
  rw [q] at h2;obtain ⟨t,h3,h4⟩:=Option.bind_eq_some_iff.mp h2;obtain ⟨r,h5,h6⟩:=Option.bind_eq_some_iff.mp h4;have e:=tRun_of h5;rw [show SharedT.abs ⟨t,0 + s.heap.objs.toList.length,s.heap.life,s.gens,s.drawn,s.toks,s.os⟩=s from congrArg (λh=>Shared.mk h s.gens s.drawn s.toks s.os) ((tOf_of (life:=s.heap.life) h3).trans (congrArg (Heap.mk · s.heap.life) (Array.empty_append ..)))] at e;dsimp only;rw [e];show (match _ with|true=>_|false=>_)=_
  cases q2:staticsOk (importedModules p.main.body) s.heap r.abs.heap && namesBound p r.abs.heap && gensDone r.abs && laidKept s.heap r.abs.heap with
  |false=>rw [q2] at h6;cases h6
  |true=>rw [q2] at h6;exact h6
theorem tLeft {w:World} {p:Program} {N:Nat} {α:Type} {f:Shared->α} {a:α} (h:(tEnds p w N).map f=some a):(openEnds treeTable p w N).map f=some a:=by
 obtain ⟨s,h1,h2⟩:=Option.map_eq_some_iff.mp h;rw [tEnds_of h1];exact congrArg some h2
theorem hl4:LeftO PW kq lo4 (λs=>xlAt kq [] s && recOk (RowW.records R4.toRowW) s) (Hook.obs H4) (Hook.val H4) 4980:=by
 intro w;refine tLeft ?_
 kernel_rfl
theorem said:OpenLaw.wellSaid PySem.Challenge.rw_rt0098_01=true:=by
 unfold OpenLaw.wellSaid
 iterate 18 (with_reducible refine look_both ?_ (by decide +kernel))
 unfold OpenRow.wellSaid OpenRow.partSaid
 repeat (with_reducible refine look_both ?_ (by decide +kernel))
 unfold looksOpen
 repeat (with_reducible refine look_both ?_ (by decide +kernel))
 decide +kernel
open PySem.Calls
inductive Ex2 {α β:Type} (p:α->β->Prop):Prop
 |intro (a:α) (b:β) (h:p a b):Ex2 p
inductive Ex3 {α β γ:Type} (p:α->β->γ->Prop):Prop
 |intro (a:α) (b:β) (c:γ) (h:p a b c):Ex3 p
inductive Ex4 {α β γ δ:Type} (p:α->β->γ->δ->Prop):Prop
 |intro (a:α) (b:β) (c:γ) (d:δ) (h:p a b c d):Ex4 p
inductive Ex5 {α β γ δ ε:Type} (p:α->β->γ->δ->ε->Prop):Prop
 |intro (a:α) (b:β) (c:γ) (d:δ) (e:ε) (h:p a b c d e):Ex5 p
inductive Ex6 {α β γ δ ε ζ:Type} (p:α->β->γ->δ->ε->ζ->Prop):Prop
 |intro (a:α) (b:β) (c:γ) (d:δ) (e:ε) (f:ζ) (h:p a b c d e f):Ex6 p
inductive Ex7 {α β γ δ ε ζ η:Type} (p:α->β->γ->δ->ε->ζ->η->Prop):Prop
 |intro (a:α) (b:β) (c:γ) (d:δ) (e:ε) (f:ζ) (g:η) (h:p a b c d e f g):Ex7 p
inductive Ex8 {α β γ δ ε ζ η θ:Type} (p:α->β->γ->δ->ε->ζ->η->θ->Prop):Prop
 |intro (a:α) (b:β) (c:γ) (d:δ) (e:ε) (f:ζ) (g:η) (h:θ) (h:p a b c d e f g h):Ex8 p
inductive Ex9 {α β γ δ ε ζ η θ ι:Type} (p:α->β->γ->δ->ε->ζ->η->θ->ι->Prop):Prop
 |intro (a:α) (b:β) (c:γ) (d:δ) (e:ε) (f:ζ) (g:η) (h:θ) (i:ι) (h:p a b c d e f g h i):Ex9 p
inductive Ex13 {α β γ δ ε ζ η θ ι κ π μ ν:Type} (p:α->β->γ->δ->ε->ζ->η->θ->ι->κ->π->μ->ν->Prop):Prop
 |intro (a:α) (b:β) (c:γ) (d:δ) (e:ε) (f:ζ) (g:η) (h:θ) (i:ι) (j:κ) (k:π) (l:μ) (m:ν) (h0:p a b c d e f g h i j k l m):Ex13 p
inductive Ex15 {α β γ δ ε ζ η θ ι κ π μ ν ξ ο:Type} (p:α->β->γ->δ->ε->ζ->η->θ->ι->κ->π->μ->ν->ξ->ο->Prop):Prop
 |intro (a:α) (b:β) (c:γ) (d:δ) (e:ε) (f:ζ) (g:η) (h:θ) (i:ι) (j:κ) (k:π) (l:μ) (m:ν) (n:ξ) (o:ο) (h0:p a b c d e f g h i j k l m n o):Ex15 p
inductive And3 (p0 p1 p2:Prop):Prop
 |intro (h0:p0) (h1:p1) (h2:p2):And3 p0 p1 p2
inductive And4 (p0 p1 p2 p3:Prop):Prop
 |intro (h0:p0) (h1:p1) (h2:p2) (h3:p3):And4 p0 p1 p2 p3
inductive And5 (p0 p1 p2 p3 p4:Prop):Prop
 |intro (h0:p0) (h1:p1) (h2:p2) (h3:p3) (h4:p4):And5 p0 p1 p2 p3 p4
inductive And6 (p0 p1 p2 p3 p4 p5:Prop):Prop
 |intro (h0:p0) (h1:p1) (h2:p2) (h3:p3) (h4:p4) (h5:p5):And6 p0 p1 p2 p3 p4 p5
inductive And7 (p0 p1 p2 p3 p4 p5 p6:Prop):Prop
 |intro (h0:p0) (h1:p1) (h2:p2) (h3:p3) (h4:p4) (h5:p5) (h6:p6):And7 p0 p1 p2 p3 p4 p5 p6
inductive And8 (p0 p1 p2 p3 p4 p5 p6 p7:Prop):Prop
 |intro (h0:p0) (h1:p1) (h2:p2) (h3:p3) (h4:p4) (h5:p5) (h6:p6) (h7:p7):And8 p0 p1 p2 p3 p4 p5 p6 p7
inductive And9 (p0 p1 p2 p3 p4 p5 p6 p7 p8:Prop):Prop
 |intro (h0:p0) (h1:p1) (h2:p2) (h3:p3) (h4:p4) (h5:p5) (h6:p6) (h7:p7) (h8:p8):And9 p0 p1 p2 p3 p4 p5 p6 p7 p8
inductive And10 (p0 p1 p2 p3 p4 p5 p6 p7 p8 p9:Prop):Prop
 |intro (h0:p0) (h1:p1) (h2:p2) (h3:p3) (h4:p4) (h5:p5) (h6:p6) (h7:p7) (h8:p8) (h9:p9):And10 p0 p1 p2 p3 p4 p5 p6 p7 p8 p9
inductive And11 (p0 p1 p2 p3 p4 p5 p6 p7 p8 p9 p10:Prop):Prop
 |intro (h0:p0) (h1:p1) (h2:p2) (h3:p3) (h4:p4) (h5:p5) (h6:p6) (h7:p7) (h8:p8) (h9:p9) (h10:p10):And11 p0 p1 p2 p3 p4 p5 p6 p7 p8 p9 p10
inductive And12 (p0 p1 p2 p3 p4 p5 p6 p7 p8 p9 p10 p11:Prop):Prop
 |intro (h0:p0) (h1:p1) (h2:p2) (h3:p3) (h4:p4) (h5:p5) (h6:p6) (h7:p7) (h8:p8) (h9:p9) (h10:p10) (h11:p11):And12 p0 p1 p2 p3 p4 p5 p6 p7 p8 p9 p10 p11
inductive And13 (p0 p1 p2 p3 p4 p5 p6 p7 p8 p9 p10 p11 p12:Prop):Prop
 |intro (h0:p0) (h1:p1) (h2:p2) (h3:p3) (h4:p4) (h5:p5) (h6:p6) (h7:p7) (h8:p8) (h9:p9) (h10:p10) (h11:p11) (h12:p12):And13 p0 p1 p2 p3 p4 p5 p6 p7 p8 p9 p10 p11 p12
inductive And14 (p0 p1 p2 p3 p4 p5 p6 p7 p8 p9 p10 p11 p12 p13:Prop):Prop
 |intro (h0:p0) (h1:p1) (h2:p2) (h3:p3) (h4:p4) (h5:p5) (h6:p6) (h7:p7) (h8:p8) (h9:p9) (h10:p10) (h11:p11) (h12:p12) (h13:p13):And14 p0 p1 p2 p3 p4 p5 p6 p7 p8 p9 p10 p11 p12 p13
theorem om0 {a b:Nat} (u:(a + b) < 400):a < 1000:=Nat.lt_of_le_of_lt (Nat.le_add_right _ _) (Nat.lt_of_lt_of_le u (Nat.le_of_lt (by decide)))
theorem om1 {a:Nat} (u:a≤100000):¬((a:Int) ≥ 9223372036854775808):=Int.not_le.mpr (Int.lt_of_le_of_lt (Int.ofNat_le.mpr u) (by decide))
theorem om2 {a b:Nat} (u:b≤100000) (v:b=(a + 1)):(((a + 1):Nat):Int)≠0:=λh=>Nat.succ_ne_zero a (Int.ofNat.inj h)
theorem om3 {a b:Nat} (u:b≤100000) (v:b=(a + 1)):(a + 1)≠0:=Nat.succ_ne_zero a
theorem om4 {a b c:Nat} (u:a≤1000) (v:b≤1000) (w:c=16777216):(a + b)≤c:=n_t (Nat.add_le_add u v) (n_t (by decide) (n_e w.symm))
theorem om5 {a b:Nat} (u:a≤1000) (v:b=16777216):(1 + a)≤b:=n_t (Nat.add_le_add_left u 1) (n_t (by decide) (n_e v.symm))
theorem om6 {a b c:Nat} (u:a≤1000) (v:b≤1000) (w:c=16777216):(a + (1 + b))≤c:=n_t (Nat.add_le_add u (Nat.add_le_add_left v 1)) (n_t (by decide) (n_e w.symm))
theorem om7 {a:Nat} (u:a≤1000):¬((a:Int) < (-9223372036854775808)):=Int.not_lt.mpr (Int.le_trans (by decide) (Int.natCast_nonneg a))
theorem om8 {a:Nat} (u:a≤1000):¬((a:Int) ≥ 9223372036854775808):=Int.not_le.mpr (Int.lt_of_le_of_lt (Int.ofNat_le.mpr u) (by decide))
theorem om9 {a:Nat} (u:a≤1000) (v:¬((a:Int) < 1)):1≤(a:Int):=Int.not_lt.mp v
theorem om10 {a:Nat} (u:a≤1000) (v:¬((a:Int) < 1)):0 < (a:Int):=Int.lt_of_lt_of_le (by decide) (Int.not_lt.mp v)
theorem om11 {a:Nat} (u:a≤1000) (v:¬((a:Int) < 1)):(1000 * (a:Int))≤(9223372036854775808 - 1):=Int.le_trans (Int.mul_le_mul_of_nonneg_left (Int.ofNat_le.mpr u) (by decide)) (by decide)
theorem om12 {a:Int} (u:1000≤a):¬(1 > a):=Int.not_lt.mpr (Int.le_trans (by decide) u)
theorem om13 {a b:Nat} (u:a≤900) (v:b≤90):(a + b)≤1000:=n_t (Nat.add_le_add u v) (by decide)
theorem om14 {a b:Nat} (u:a≤900) (v:b≤90):(a + (1 + b))≤1000:=n_t (Nat.add_le_add u (Nat.add_le_add_left v 1)) (by decide)
theorem om15 {a:Nat} (u:a < 64):a≤16777216:=n_t (Nat.le_of_lt u) (Nat.le_of_lt (by decide))
theorem om16 {a b:Nat} (u:b < 64) (v:a=b):a < 64:=Nat.lt_of_le_of_lt (n_e v) u
theorem om17 {a b c:Nat} (u:c=a) (v:b < c):((a - 1) - b) < a:=Nat.lt_of_le_of_lt (Nat.sub_le (a - 1) b) (Nat.sub_one_lt_of_lt (Nat.lt_of_lt_of_le v (n_e u)))
theorem om18 {a:Nat}:(a + 1)≠a:=Nat.succ_ne_self a
theorem om19 {a:Nat}:0≤((a:Int) + 1):=Int.natCast_nonneg (a + 1)
theorem om20 {a:Nat}:((a:Int) + 1)≠0:=λh=>Nat.succ_ne_zero a (Int.ofNat.inj h)
theorem om21 {a:Nat}:0 < ((a:Int) + 1):=(Int.ofNat_lt (n:=0) (m:=a + 1)).mpr (Nat.succ_pos a)
theorem om22 {a b:Nat}:((min a b) + ((b - a) + 1))=(b + 1):=congrArg Nat.succ ((Nat.add_comm (min a b) (b - a)).trans ((congrArg (b - a + ·) (Nat.min_comm a b)).trans (Nat.sub_add_min_cancel b a)))
theorem om23 {a b c d e:Nat} (u:b=7) (v:c=7) (w:d=c) (x:a < d) (y:e=a):a < b:=Nat.lt_of_lt_of_le x (n_t (n_e w) (n_t (n_e v) (n_e (Eq.symm u))))
theorem om24 {a b c d:Nat} (u:b=7) (v:c=b) (w:a < c) (x:d=a):((a:Int) + 1)≠0:=λh=>Nat.succ_ne_zero a (Int.ofNat.inj h)
theorem om25 {a b c d:Nat} (u:b=7) (v:c=b) (w:a < c) (x:d=a):0≤(a:Int):=Int.natCast_nonneg a
theorem om26 {a b c d:Nat} (u:b=7) (v:c=b) (w:a < c) (x:d=a):(a:Int) < 9223372036854775808:=Int.lt_trans (Int.ofNat_lt.mpr (Nat.lt_of_lt_of_le w (n_e (v.trans u)))) (by decide)
theorem om27 {a b c d e f:Nat} (u:c=7) (v:b=16777216) (w:d=c) (x:e < d) (y:f=e) (z:a=f):a≤b:=n_t (n_e z) (n_t (n_e y) (n_t (Nat.le_of_lt x) (n_t (n_e w) (n_t (n_e u) (n_t (Nat.le_of_lt (by decide)) (n_e (Eq.symm v)))))))
theorem om28 {b c d:Nat} {a:Int} (u:c=d) (v:b=c) (w:(0≤a)∧(a < ((d:Int) + 1))):a≤(b:Int):=Int.le_trans (Int.le_of_lt_add_one w.2) (Int.ofNat_le.mpr (n_e (v.trans u).symm))
theorem om29 {a b c:Nat} (u:a=7) (v:b=7) (w:c=b):(min a b)≤c:=n_t (Nat.min_le_right _ _) (n_e (Eq.symm w))
theorem om30 {a:Nat} (u:a < 7) (v:0 < a):0≤(a:Int):=Int.natCast_nonneg a
theorem om31 {a:Nat} (u:a < 7) (v:0 < a):(a:Int)≠0:=λh=>Nat.ne_of_gt v (Int.ofNat.inj h)
theorem om32 {a:Nat} (u:a < 7) (v:0 < a):0 < (a:Int):=Int.ofNat_lt.mpr v
theorem om33 {a:Nat} (u:a < 7) (v:0 < a):(a:Int) < 9223372036854775808:=Int.lt_trans (Int.ofNat_lt.mpr u) (by decide)
theorem om34 {b:Nat} {a:Int} (u:b < 7) (v:0 < b) (w:(0≤a)∧(a < (b:Int))):a < 9223372036854775808:=Int.lt_trans w.2 (Int.lt_trans (Int.ofNat_lt.mpr u) (by decide))
theorem om35 {b c d e:Nat} {a:Int} (u:c=7) (v:d=c) (w:b=d) (x:e < 7) (y:0 < e) (z:(0≤a)∧(a < (e:Int))):(Int.toNat a) < b:=Nat.lt_of_lt_of_le (Nat.lt_trans ((Int.toNat_lt z.1).mpr z.2) x) (n_e (w.trans (v.trans u)).symm)
theorem om36 {a:Nat} (u:a=7):0 < a:=Nat.lt_of_lt_of_le (by decide) (n_e (Eq.symm u))
theorem om37 {a:Int} (u:(0≤a)∧(a < 7)):a < 9223372036854775808:=Int.lt_trans u.2 (by decide)
theorem om38 {a b c:Nat} (u:a≤(c + 1)) (v:c≤(b + 1)):a≤(b + 2):=n_t u (Nat.succ_le_succ v)
theorem om39 {a:Nat} (u:a≤1000):(a:Int) < 9223372036854775808:=Int.lt_of_le_of_lt (Int.ofNat_le.mpr u) (by decide)
theorem om40 {a b c d:Nat} (u:b≤800) (v:c=d) (w:d≤(b + 1)) (x:a=c):a≤900:=n_t (n_e (x.trans v)) (n_t w (n_t (Nat.succ_le_succ u) (by decide)))
theorem om41 {a b c d:Nat} (u:a≤(b + c)) (v:d=a):(a + 1)≤(b + (c + 1)):=Nat.succ_le_succ u
theorem om42 {a b c:Nat} (u:a≤(b + c)):a≤(b + (c + 1)):=Nat.le_succ_of_le u
theorem om43 {a b c d e:Nat} (u:c≤(100 + (100 * b))) (v:d≤100) (w:e=d) (x:a≤(c + e)):a≤(100 + (100 * (b + 1))):=n_t x (n_t (Nat.add_le_add u (n_t (n_e w) v)) (n_e (Nat.add_assoc 100 (100 * b) 100)))
theorem om44 {a b:Nat} (u:(a + 1) < b):a < b:=Nat.lt_of_lt_of_le (Nat.lt_succ_self _) (Nat.le_of_lt u)
theorem om45 {a:Nat} (u:a≤100000):(a:Int) < 9223372036854775808:=Int.lt_of_le_of_lt (Int.ofNat_le.mpr u) (by decide)
theorem om46 {b:Nat} {a:Int} (u:0≤a) (v:a≤(b:Int)) (w:b≤16777216):((-9223372036854775808)≤a)∧(a < 9223372036854775808):=⟨Int.le_trans (by decide) u,Int.lt_of_le_of_lt (Int.le_trans v (Int.ofNat_le.mpr w)) (by decide)⟩
theorem om47 {b:Nat} {a:Int} (u:a≤(b:Int)) (v:b≤16777216):(min (Int.toNat a) b)=(Int.toNat a):=Nat.min_eq_left (Int.toNat_le.mpr u)
theorem om48 {a:Int} (u:0≤a):¬(a < 0):=Int.not_lt.mpr u
theorem om49 {a b:Nat} (u:¬(a < b)) (v:a < (b + 1)):a=b:=Nat.le_antisymm (Nat.le_of_lt_succ v) (Nat.le_of_not_lt u)
theorem om50 {a b:Nat} (u:b=(a + 1)):(min a b)=a:=Nat.min_eq_left (n_t (Nat.le_succ a) (n_e u.symm))
theorem om51 {a b c d:Nat} (u:(b + 1)≤d) (v:(a + d)≤c):((a + 1) + b)≤c:=n_t (n_e (Nat.succ_add a b)) (n_t (Nat.add_le_add_left u a) v)
theorem om52 {a b:Nat} (u:¬((a + 1) < b)) (v:a < b):(a + 1)=b:=Nat.le_antisymm v (Nat.le_of_not_lt u)
theorem om53 {a b:Nat} (u:(a + 1)=b):a < b:=Nat.lt_of_lt_of_le (Nat.lt_succ_self _) (n_e u)
theorem om54 {a b:Nat} (u:(b + 1)=a):(a - 1)=b:=congrArg Nat.pred u.symm
theorem om55 {a b c:Nat} (u:a≤b):a≤(b + c):=n_t u (Nat.le_add_right _ _)
theorem om56 {a b c d:Nat} (u:b=(c - d)) (v:(a + 1) < b):a < b:=Nat.lt_of_lt_of_le (Nat.lt_succ_self _) (Nat.le_of_lt v)
theorem om57 {a b c d:Nat} (u:b=(c - d)) (v:¬((a + 1) < b)) (w:a < (c - d)):(a + 1)=b:=Nat.le_antisymm (n_t w (n_e (Eq.symm u))) (Nat.le_of_not_lt v)
theorem om58 {a b c d:Nat} (u:b=(c - d)) (v:(a + 1)=b):a < b:=Nat.lt_of_lt_of_le (Nat.lt_succ_self _) (n_e v)
theorem om59 {a b c d:Nat} (u:b < a) (v:d=(a - b)) (w:(c + 1)=d):(a - 1)=(b + c):=congrArg Nat.pred ((Nat.add_sub_cancel' (Nat.le_of_lt u)).symm.trans (congrArg (b + ·) (v.symm.trans w.symm)))
theorem om60 {a b c:Nat} (u:b≤900) (v:(a + c)≤b):a≤900:=n_t (Nat.le_add_right _ _) (n_t v u)
theorem om61 {a:Nat}:0≤(a:Int):=Int.natCast_nonneg a
theorem om62 {a b c:Nat} (u:c≤900) (v:a=c):a≤(999 + b):=n_t (n_e v) (n_t u (n_t (Nat.le_of_lt (by decide)) (Nat.le_add_right _ _)))
theorem om63 {a:Nat} (u:a≤900):(a + 1) < 4096:=Nat.lt_of_le_of_lt (Nat.succ_le_succ u) (by decide)
theorem om64 {a b c:Nat} (u:b=c) (v:(a + 1)≤c):a < b:=Nat.lt_of_lt_of_le v (n_e (Eq.symm u))
theorem om65 {a b c:Nat} (u:a=b) (v:(c:Int)=((a:Int) + 1)):(-((a:Int) + 1))≤(-1):=Int.neg_le_neg (Int.le_add_of_nonneg_left (Int.natCast_nonneg a))
theorem om66 {a b c:Nat} (u:a=b) (v:(c:Int)=((a:Int) + 1)):(Int.toNat ((-1) + ((a:Int) + 1)))=a:=congrArg Int.toNat ((Int.add_comm (-1) _).trans (Int.add_neg_cancel_right (a:Int) 1))
theorem om67 {a b c d e f:Nat} (u:c=d) (v:(d + e)≤900) (w:(f:Int)=((c:Int) + 1)) (x:b=16777216) (y:a=d):(a + 1)≤b:=n_t (Nat.succ_le_succ (n_t (n_e y) (n_t (Nat.le_add_right d e) v))) (n_t (by decide) (n_e x.symm))
theorem om68 {a b c d:Nat} (u:a=c) (v:(d:Int)=((a:Int) + 1)) (w:b=16777216) (x:c≤899):(a + 1)≤b:=n_t (Nat.succ_le_succ (n_t (n_e u) x)) (n_t (by decide) (n_e w.symm))
theorem om69 {a b:Nat} (u:(a + (b + 1)) < 400):a < 1000:=Nat.lt_of_le_of_lt (Nat.le_add_right _ _) (Nat.lt_of_lt_of_le u (Nat.le_of_lt (by decide)))
theorem om70 {a b c d e:Nat} (u:c=d) (v:a=e) (w:e≤(min b d)):a≤b:=n_t (n_e v) (n_t w (Nat.min_le_left _ _))
theorem om71 {a b c d:Nat} (u:b≤900) (v:c=b) (w:a=d) (x:d≤(b + 1)):a≤100000:=n_t (n_e w) (n_t x (n_t (Nat.succ_le_succ u) (by decide)))
theorem om72 {a b:Nat} (u:(a + 1)≤b):a≤b:=Nat.le_of_lt u
theorem om73 {a b:Nat} (u:(a + 1)≤b):a < b:=u
theorem om74 {a b c:Nat} (u:c≤(2 * b)) (v:a≤(c + 2)):a≤(2 * (b + 1)):=n_t v (Nat.add_le_add_right u 2)
theorem om75 {a b:Nat} (u:¬(a < b)) (v:(a - b)=0):a=b:=Nat.le_antisymm (Nat.le_of_sub_eq_zero v) (Nat.le_of_not_lt u)
theorem om76 {a b c d:Nat} (u:b≤20) (v:c=b) (w:d < b) (x:a≤d):a≤1000:=n_t x (n_t (Nat.le_of_lt w) (n_t u (Nat.le_of_lt (by decide))))
theorem om77 {a b c:Nat} (u:b≤20) (v:c=b) (w:a≤(2 * b)):a≤900:=n_t w (n_t (Nat.mul_le_mul_left 2 u) (by decide))
theorem om78 {a b c:Nat} (u:c=a) (v:b < a):(a - b)=(((a - b) - 1) + 1):=(Nat.succ_pred_eq_of_pos (Nat.sub_pos_of_lt v)).symm
theorem om79 {a b c d:Nat} (u:c≤20) (v:d=c) (w:a < c):(min a b)≤100:=n_t (Nat.min_le_left _ _) (n_t (Nat.le_of_lt w) (n_t u (Nat.le_of_lt (by decide))))
theorem om80 {a b:Nat} (u:a=b) (v:a≤100):1≤((a:Int) + 1):=Int.le_add_of_nonneg_left (Int.natCast_nonneg a)
theorem om81 {a b:Nat} (u:a=b) (v:a≤100):(Int.toNat ((-1) + (((a + 1):Nat):Int)))=a:=congrArg Int.toNat ((Int.add_comm (-1) _).trans (Int.add_neg_cancel_right (a:Int) 1))
theorem om82 {a b c:Nat} (u:c=b) (v:0=(a - b)):a≤b:=Nat.le_of_sub_eq_zero v.symm
theorem om83 {a b c d:Nat} (u:a≤(d + c)) (v:d≤(b + 1)):a≤(b + (c + 1)):=n_t u (n_t (Nat.add_le_add_right v c) (n_e (Nat.succ_add b c)))
theorem om84 {a b c d e:Nat} (u:a≤(d + (100 * c))) (v:d≤(b + e)) (w:e≤100):a≤(b + (100 * (c + 1))):=n_t u (n_t (Nat.add_le_add_right (n_t v (Nat.add_le_add_left w b)) (100 * c)) (n_e ((Nat.add_assoc b 100 (100 * c)).trans (congrArg (b + ·) (Nat.add_comm 100 (100 * c))))))
theorem om85 {a b c d e:Nat} (u:c≤(0 + (100 * d))) (v:d≤100) (w:b=16777216) (x:a≤(c + e)) (y:e≤100):a≤b:=n_t x (n_t (Nat.add_le_add (n_t u (Nat.add_le_add_left (Nat.mul_le_mul_left 100 v) 0)) y) (n_t (by decide) (n_e w.symm)))
theorem om86 {a b:Nat} (u:b < 400) (v:a≤(b + 1)):a≤1000:=n_t v (n_t u (Nat.le_of_lt (by decide)))
theorem om87 {a b c d:Nat} (u:a=c) (v:c≤(min b d)):a≤b:=n_t (n_e u) (n_t v (Nat.min_le_left _ _))
theorem om88 {a b c d e f:Nat} (u:b≤50) (v:c=b) (w:d=b) (x:e < c) (y:a=f) (z:f≤(e + 1)):(1 + a)≤1000:=n_t (Nat.add_le_add_left (n_t (n_e y) (n_t z (n_t x (n_t (n_e v) u)))) 1) (by decide)
theorem om89 {a b c d e:Nat} (u:b≤50) (v:c=b) (w:d=b) (x:a=e) (y:e≤(d + 1)):a < 64:=Nat.lt_of_le_of_lt (n_t (n_e x) (n_t y (Nat.succ_le_succ (n_t (n_e w) u)))) (by decide)
theorem om90 {a b c d:Nat} (u:b=c) (v:a=d) (w:d=c):a=b:=Eq.trans v (Eq.trans w (Eq.symm u))
theorem om91 {a b c:Nat} (u:c=a) (v:a=b):(min a b)≤c:=n_t (Nat.min_le_left _ _) (n_e (Eq.symm u))
theorem om92 {a b c:Nat} (u:(a + c)≤1000) (v:b=16777216):a≤b:=n_t (Nat.le_add_right _ _) (n_t u (n_t (Nat.le_of_lt (by decide)) (n_e (Eq.symm v))))
theorem om93 {a b c:Nat} (u:c=16777216) (v:(a + b)≤1000):¬((a + b) > c):=Nat.not_lt_of_le (n_t v (n_t (by decide) (n_e u.symm)))
theorem om94 {a:Nat} (u:a≤1000):(-4611686018427387904)≤(a:Int):=Int.le_trans (by decide) (Int.natCast_nonneg a)
theorem om95 {a:Nat} (u:a≤1000):(a:Int) < 4611686018427387904:=Int.lt_of_le_of_lt (Int.ofNat_le.mpr u) (by decide)
theorem om96 {a:Nat}:(0 + ((a:Int) * 1))=(a:Int):=(Int.zero_add _).trans (Int.mul_one _)
theorem om97 {a b:Int} (u:b > a):a≤b:=Int.le_of_lt u
theorem om98 {a b:Int} (u:¬(a > b)):a≤b:=Int.not_lt.mp u
theorem om99 {a b:Nat} (u:a≤b):a < (b + 1):=Nat.lt_of_le_of_lt u (Nat.lt_succ_self _)
theorem om100 {a b:Nat} (u:b=(a + 1)):(-(((a + 1):Nat):Int))≤(-1):=Int.neg_le_neg (Int.ofNat_le.mpr (Nat.succ_le_succ (Nat.zero_le a)))
theorem om101 {a b:Nat} (u:b=(a + 1)):(Int.toNat ((-1) + (((a + 1):Nat):Int)))=a:=congrArg Int.toNat ((Int.add_comm (-1) _).trans (Int.add_neg_cancel_right (a:Int) 1))
theorem om102 {a b:Nat} (u:b≤20) (v:a=(b + 1)):a≤1000:=n_t (n_e v) (n_t (Nat.succ_le_succ u) (by decide))
theorem om103 {a b c d:Nat} (u:a=c) (v:c≤20) (w:b=d) (x:b≤1):(a + b)≤1000:=n_t (Nat.add_le_add (n_t (n_e u) v) x) (by decide)
theorem om104 {a:Nat}:(Int.toNat ((a:Int) + 1))=(a + 1):=rfl
theorem om105 {a b:Nat}:(max (a:Int) (b:Int))=(((max a b):Nat):Int):=(Nat.le_total a b).elim (λh=>(Int.max_eq_right (Int.ofNat_le.mpr h)).trans (congrArg Nat.cast (Nat.max_eq_right h).symm)) (λh=>(Int.max_eq_left (Int.ofNat_le.mpr h)).trans (congrArg Nat.cast (Nat.max_eq_left h).symm))
theorem om106 {a b c:Nat} (u:b≤20) (v:c=b) (w:a < c):a≤20:=n_t (Nat.le_of_lt w) (n_t (n_e v) u)
theorem om107 {a b c d e f:Nat} (u:c≤20) (v:b=16777216) (w:d=(c + 1)) (x:e < d) (y:a≤(f + e)) (z:f≤(20 * 21)):a≤b:=n_t y (n_t (Nat.add_le_add z (n_t (Nat.le_of_lt_succ (Nat.lt_of_lt_of_le x (n_e w))) u)) (n_t (by decide) (n_e v.symm)))
theorem om108 {a b c d:Nat} (u:d≤(b + c)) (v:a≤(d + 1)):a≤(b + (c + 1)):=n_t v (Nat.succ_le_succ u)
theorem om109 {a b c:Nat} (u:c=b) (v:¬(a=b)):¬((a:Int)=(b:Int)):=λh=>v (Int.ofNat.inj h)
theorem om110 {a b:Nat} (u:(a + (b + 1)) < 400):((a + 1) + b) < 400:=Nat.lt_of_le_of_lt (n_e (Nat.succ_add a b)) u
theorem om111 {a b:Nat} (u:(a + (16 * (b + 1))) < 8000):((a + 1) + (16 * b)) < 8000:=Nat.lt_of_le_of_lt (n_t (n_e (Nat.add_right_comm a 1 (16 * b))) (n_t (Nat.add_le_add_left (by decide) (a + 16 * b)) (n_e (Nat.add_assoc a (16 * b) 16)))) u
theorem om112 {a b c:Nat} (u:a=c) (v:(a - b)=0):a≤b:=Nat.le_of_sub_eq_zero v
theorem om113 {a b c:Nat} (u:c=a) (v:(c - b)=0):a≤b:=n_t (n_e u.symm) (Nat.le_of_sub_eq_zero v)
theorem om114 {a b c d:Nat} (u:c=b) (v:(c - a)=(d + 1)) (w:a≤c):a < b:=Nat.lt_of_lt_of_le (Nat.lt_of_sub_eq_succ v) (n_e u)
theorem om115 {a b c d e f:Nat} (u:c≤1000) (v:b=16777216) (w:c=d) (x:e≤c) (y:a=f) (z:a≤e):a≤b:=n_t z (n_t x (n_t u (n_t (Nat.le_of_lt (by decide)) (n_e (Eq.symm v)))))
theorem om116 {a b c d e f:Nat} (u:c≤1000) (v:b=16777216) (w:c=d) (x:e≤c) (y:a=f) (z:a≤e):(a + 1)≤(b + 1):=Nat.lt_of_le_of_lt z (Nat.lt_of_le_of_lt x (Nat.lt_of_le_of_lt u (Nat.lt_of_lt_of_le (by decide) (n_t (n_e (Eq.symm v)) (Nat.le_of_lt (Nat.lt_succ_self _))))))
theorem om117 {a b c d:Nat} (u:a=d) (v:(a - b)=(c + 1)) (w:b≤a):(a - (b + 1))=c:=congrArg Nat.pred v
theorem om118 {a b c d:Nat} (u:b=c) (v:(b - a)=(d + 1)) (w:a≤b):(a + 1)≤b:=Nat.lt_of_sub_eq_succ v
theorem om119 {a b c d:Nat} (u:c≤1000) (v:b=16777216) (w:a=d) (x:c=d):a≤b:=n_t (n_e w) (n_t (n_e (Eq.symm x)) (n_t u (n_t (Nat.le_of_lt (by decide)) (n_e (Eq.symm v)))))
theorem om120 {a b c d e:Nat} (u:c=d) (v:a=e) (w:((min c a) - b)=0) (x:b < c):a≤b:=Nat.le_of_not_lt λh=>Nat.not_le_of_lt (Nat.lt_min.mpr ⟨x,h⟩) (Nat.le_of_sub_eq_zero w)
theorem om121 {a b c:Nat} (u:c=a) (v:b≤c) (w:c≤b):a≤b:=n_t (n_e (Eq.symm u)) w
theorem om122 {a b c d e:Nat} (u:b=c) (v:a=d) (w:e≤a) (x:e < b) (y:a≤e):a≤b:=n_t y (Nat.le_of_lt x)
theorem om123 {a b c:Nat} (u:c=a) (v:b≤c) (w:b ≥ c):a≤b:=n_t (n_e (Eq.symm u)) w
theorem om124 {a b c d e:Nat} (u:a=c) (v:b=d) (w:e≤a) (x:e ≥ a) (y:e < b):a < b:=Nat.lt_of_le_of_lt x y
theorem om125 {a b c d e:Nat} (u:b=c) (v:a=d) (w:e≤b) (x:e≤a) (y:e ≥ b) (z:e ≥ a):a≤b:=n_t z w
theorem om126 {a b c d e f:Nat} (u:b=c) (v:d=e) (w:a≤b) (x:a≤d) (y:((min b d) - a)=(f + 1)):a < b:=Nat.lt_of_lt_of_le (Nat.lt_of_sub_eq_succ y) (Nat.min_le_left b d)
theorem om127 {a b c d e f:Nat} (u:c=d) (v:b=e) (w:a≤b) (x:((min c b) - a)=(f + 1)) (y:a < c):a < b:=Nat.lt_of_lt_of_le (Nat.lt_of_sub_eq_succ x) (Nat.min_le_right c b)
theorem om128 {a b c:Nat} (u:c=b) (v:a < c):a < b:=Nat.lt_of_lt_of_le v (n_e u)
theorem om129 {a b c d e f:Nat} (u:a=e) (v:b=f) (w:((min a b) - c)=(d + 1)) (x:c < a) (y:c < b):((min a b) - (c + 1))=d:=congrArg Nat.pred w
theorem om130 {a b c d e:Nat} (u:b=c) (v:a=d) (w:e≤a) (x:e < b) (y:a≤e):a < b:=Nat.lt_of_le_of_lt y x
theorem om131 {a b c d e:Nat} (u:a=c) (v:b=d) (w:e≤a) (x:e ≥ a) (y:e < b):a≤b:=n_t x (Nat.le_of_lt y)
theorem om132 {a b c d e:Nat} (u:a=c) (v:b=d) (w:e≤a) (x:e≤b) (y:e ≥ a) (z:e ≥ b):a≤b:=n_t y x
theorem om133 {a:Nat} (u:(a + (16 * 3)) < 8000):(a + 1) < 9900:=Nat.lt_of_le_of_lt (Nat.succ_le_succ (Nat.le_add_right _ _)) (Nat.lt_of_le_of_lt u (by decide))
theorem om134 {a b c d e:Nat} (u:(a + b)≤(d + e)):(a + b)≤((c + d) + (e + 1)):=n_t u (Nat.add_le_add (Nat.le_add_left d c) (Nat.le_add_right e 1))
theorem om135 {a b c d e:Nat} (u:(b + c)≤(d + e)):((a + b) + (c + 1))≤((a + d) + (e + 1)):=Nat.succ_le_succ (n_t (n_e (Nat.add_assoc a b c)) (n_t (Nat.add_le_add_left u a) (n_e (Nat.add_assoc a d e).symm)))
theorem om136 {a b:Nat} (u:a≤1000) (v:b=16777216):(a + 2)≤b:=n_t (Nat.add_le_add_right u 2) (n_t (by decide) (n_e v.symm))
theorem om137 {a:Int} (u:0≤a) (v:a < 9223372036854775808):(-9223372036854775808)≤a:=Int.le_trans (by decide) u
theorem om138 {a:Int} (u:0≤a) (v:a < 9223372036854775808):¬(a < 0):=Int.not_lt.mpr u
theorem om139 {b:Nat} {a:Int} (u:0≤a) (v:a < 9223372036854775808) (w:(Int.toNat a) < b):(0≤a)∧(a < (b:Int)):=⟨u,(Int.toNat_lt u).mp w⟩
theorem om140 {a b c:Nat} (u:a=b) (v:b≤(c + 2)) (w:c≤900):a≤1000:=n_t (n_e u) (n_t v (n_t (Nat.add_le_add_right w 2) (by decide)))
theorem om141 {a b c:Nat} (u:b=c) (v:c≤902) (w:a < b):(a:Int) < 9223372036854775808:=Int.lt_trans (Int.ofNat_lt.mpr (Nat.lt_of_lt_of_le w (n_t (n_e u) v))) (by decide)
theorem om142 {a b c d e:Nat} (u:c≤900) (v:(a + b)≤(d + e)) (w:(d + e)≤(c + 1)):(a + b)≤901:=n_t v (n_t w (Nat.succ_le_succ u))
theorem om143 {a b:Nat} (u:(a + b)≤901):(a + (b * 1))≤16777216:=n_t (n_e (congrArg (a + ·) (Nat.mul_one b))) (n_t u (by decide))
theorem om144 {a b c:Nat} (u:(b + c)≤901) (v:a≤(b + (c * 1))):a≤901:=n_t v (n_t (n_e (congrArg (b + ·) (Nat.mul_one c))) u)
theorem om145 {a b:Nat} (u:b=16777216) (v:a≤901):(1 + a)≤b:=n_t (Nat.add_le_add_left v 1) (n_t (by decide) (n_e u.symm))
theorem om146 {a b c:Nat} (u:c=a) (v:b ≥ c):a≤b:=n_t (n_e (Eq.symm u)) v
theorem om147 {a b c:Nat} (u:a < c) (v:c=b):a < b:=Nat.lt_of_lt_of_le u (n_e v)
theorem om148 {a b c d:Nat} (u:a=c) (v:b=d) (w:c=d):a=b:=Eq.trans u (Eq.trans w (Eq.symm v))
theorem om149 {a b c d:Nat} (u:a=c) (v:b=d) (w:¬(c=d)):¬(a=b):=λh=>w (u.symm.trans (h.trans v))
theorem om150 {a b c d:Nat} (u:c=b) (v:b=d) (w:a < c):a < b:=Nat.lt_of_lt_of_le w (n_e u)
theorem om151 {a:Nat} (u:a < 8900):(a + 1) < 9000:=Nat.lt_of_le_of_lt u (by decide)
theorem om152 {a b:Nat} (u:b < 400) (v:a≤(b + 1)):a≤(16777216 + 1):=n_t v (n_t u (n_t (Nat.le_of_lt (by decide)) (Nat.le_of_lt (Nat.lt_succ_self _))))
theorem om153 {a b c d e f:Nat} (u:c=d) (v:a=e) (w:b=f) (x:e=c) (y:f=d):a=b:=Eq.trans v (Eq.trans x (Eq.trans u (Eq.trans (Eq.symm y) (Eq.symm w))))
theorem om154 {a b c d e f i:Nat} (u:c=d) (v:b=e) (w:e=c) (x:f=d) (y:i < b) (z:a=i):a < b:=Nat.lt_of_le_of_lt (n_e z) y
theorem om155 {a b c d e f:Nat} (u:a=d) (v:(a - b)=(c + 1)) (w:b≤a) (x:e≤(f + 1)):(a - (b + 1))=c:=congrArg Nat.pred v
theorem om156 {a b c d e:Nat} (u:b=d) (v:((e + b) - c)≤1000) (w:a≤(e + 1)):((a + b) - (c + 1))≤1000:=n_t (Nat.sub_le_sub_right (n_t (Nat.add_le_add_right w b) (n_e (Nat.succ_add e b))) (c + 1)) (n_t (n_e (Nat.succ_sub_succ_eq_sub (e + b) c)) v)
theorem om157 {a b c d e f:Nat} (u:b=16777216) (v:c=d) (w:e≤c) (x:((f + c) - e)≤1000) (y:a=f):a≤b:=n_t (n_e y) (n_t (n_t (Nat.le_add_right f (c - e)) (n_e (Nat.add_sub_assoc w f).symm)) (n_t x (n_t (by decide) (n_e u.symm))))
theorem om158 {a b c:Nat}:(a + b)≤((a + b) + c):=Nat.le_add_right _ _
theorem om159 {a b c d e:Nat} (u:c≤400) (v:(d + e)≤c) (w:a≤d) (x:b=e):((a + b) - 0)≤1000:=n_t (Nat.add_le_add w (n_e x)) (n_t v (n_t u (by decide)))
theorem om160 {a b c d e f i:Nat} (u:a=d) (v:(a - b)=(c + 1)) (w:b≤a) (x:e≠f) (y:e≠i):(a - (b + 1))=c:=congrArg Nat.pred v
theorem om161 {a b c d e f i:Nat} (u:b=c) (v:(b - a)=(d + 1)) (w:a≤b) (x:e≠f) (y:e≠i):(a + 1)≤b:=Nat.lt_of_sub_eq_succ v
theorem om162 {a b c:Nat} (u:c=b) (v:a=c):a≤b:=n_t (n_e v) (n_e u)
theorem om163 {a b c d:Nat} (u:a=c) (v:c≤(0 + d)) (w:d≤b):a≤b:=n_t (n_e u) (n_t v (n_t (n_e (Nat.zero_add d)) w))
theorem om164 {a:Int} (u:a < 7):(Int.toNat a) < 7:=(Int.toNat_lt' (by decide)).mpr u
theorem om165 {a b c:Nat} (u:b=7) (v:c=b) (w:a < c):0≤(a:Int):=Int.natCast_nonneg a
theorem om166 {a b c:Nat} (u:b=7) (v:c=b) (w:a < c):(a:Int) < 9223372036854775808:=Int.lt_trans (Int.ofNat_lt.mpr (Nat.lt_of_lt_of_le w (n_e (v.trans u)))) (by decide)
theorem om167 {a:Int} (u:0≤a) (v:a < 7):a < 9223372036854775808:=Int.lt_trans v (by decide)
theorem om168 {a b:Nat} (u:a=b) (v:a=7):a≤1000:=n_t (n_e v) (Nat.le_of_lt (by decide))
theorem om169 {a b:Nat} (u:a=b) (v:b < 60):a < 64:=Nat.lt_of_le_of_lt (n_e u) (Nat.lt_of_lt_of_le v (Nat.le_of_lt (by decide)))
theorem om170 {a b c d:Nat} (u:b=c) (v:b=7) (w:a < d) (x:d=7):a < b:=Nat.lt_of_lt_of_le w (n_t (n_e x) (n_e (Eq.symm v)))
theorem om171 {a b:Nat} (u:b≤100) (v:a=b) (w:0 < b):(-(a:Int))≤(-1):=Int.neg_le_neg (Int.ofNat_le.mpr (Nat.lt_of_lt_of_le w (n_e v.symm)))
theorem om172 {a b:Nat} (u:a≤100) (v:b=a) (w:0 < a):(Int.toNat ((-1) + (a:Int)))=(a - 1):=(congrArg Int.toNat (Int.add_comm (-1) a)).trans (Int.toNat_sub a 1)
theorem om173 {a b c d:Nat} (u:b≤100) (v:c=b) (w:0 < b) (x:a=d) (y:d=(b - 1)):a≤1000:=n_t (n_e x) (n_t (n_e y) (n_t (Nat.sub_le _ _) (n_t u (Nat.le_of_lt (by decide)))))
theorem om174 {a b c:Nat} (u:a=b) (v:b≤c) (w:c≤60):a < 64:=Nat.lt_of_le_of_lt (n_e u) (Nat.lt_of_le_of_lt v (Nat.lt_of_le_of_lt w (by decide)))
theorem om175 {a b:Nat} (u:a=b) (v:b < 2):a≤3:=n_t (n_e u) (n_t (Nat.le_of_lt v) (Nat.le_of_lt (by decide)))
theorem om176 {a b c:Nat} (u:c=b) (v:¬(a < c)) (w:(a - c)=0):a=b:=(Nat.le_antisymm (Nat.le_of_sub_eq_zero w) (Nat.le_of_not_lt v)).trans u
theorem om177 {a b:Nat} (u:a≤(b - 1)) (v:0 < b):(a + 1)≤b:=Nat.lt_of_le_of_lt u (Nat.sub_lt v Nat.one_pos)
theorem om178 {a b c d:Nat} (u:c≤(2 * b)) (v:a≤(d + 1)) (w:d≤(c + 1)):a≤(2 * (b + 1)):=n_t v (Nat.succ_le_succ (n_t w (Nat.succ_le_succ u)))
theorem om179 {a b c d:Nat} (u:c=(d + 1)) (v:a=(c + 1)) (w:b=(d + 1)):a=(b + 1):=v.trans (congrArg Nat.succ (u.trans w.symm))
theorem om180 {a b c d:Nat} (u:c=(d + 1)) (v:a=c) (w:b=d):a=(b + 1):=Eq.trans v (Eq.trans u (congrArg Nat.succ (Eq.symm w)))
theorem om181 {a b:Nat} (u:a=(b + 1)) (v:a=0):False:=Nat.succ_ne_zero b (u.symm.trans v)
theorem om182 {a:Nat}:((((a + 1):Nat):Int) - 1)=(a:Int):=Int.add_sub_cancel (a:Int) 1
theorem om183 {a b:Nat} {c d:Int} (u:b=(a + 1)) (v:c=(b:Int)) (w:d=(b:Int)) (x:((b:Int) - 1)=0):a=0:=Int.ofNat.inj ((Int.add_sub_cancel (a:Int) 1).symm.trans ((congrArg (λn:Nat=>(n:Int) - 1) u.symm).trans x))
theorem om184 {a b c:Nat} (u:b≤20) (v:a≤c) (w:c≤(2 * b)):a≤60:=n_t v (n_t w (n_t (Nat.mul_le_mul_left 2 u) (by decide)))
theorem om185 {a b:Nat}:((a + 1) + b)=(a + (b + 1)):=Nat.succ_add a b
theorem om186 {a:Nat} (u:1≤a):a=(1 + (a - 1)):=(Nat.add_sub_cancel' u).symm
theorem om187 {a:Nat} (u:a < (7 + 1)):a≤7:=Nat.le_of_lt_succ u
theorem om188 {a b:Nat} (u:b < a):1≤(a - b):=Nat.sub_pos_of_lt u
theorem om189 {a b:Nat} (u:a < b):(a + (b - a))=b:=Nat.add_sub_cancel' (Nat.le_of_lt u)
theorem om190 {a b:Nat} (u:a < b) (v:b≤7):(a + (7 - a))=7:=Nat.add_sub_cancel' (Nat.le_of_lt (Nat.lt_of_lt_of_le u v))
theorem om191 {a:Nat} (u:1≤a):(((a * 7) - 7) + 7)=(a * 7):=Nat.sub_add_cancel (Nat.mul_le_mul_right 7 u)
theorem om192 {a b:Nat}:(a + (b + 1))=((a + 1) + b):=(Nat.succ_add a b).symm
theorem om193 {a b:Nat} (u:a < (b + 1)):a≤b:=Nat.le_of_lt_succ u
theorem om194 {a:Nat}:a=(0 + a):=(Nat.zero_add a).symm
theorem om195 {a b:Nat} (u:a≤b) (v:b≤a):a=b:=Nat.le_antisymm u v
theorem om196 {a b:Nat} (u:a < b) (v:b≤7):a≤7:=n_t (Nat.le_of_lt u) v
theorem om197 {a b:Nat} (u:a < b) (v:b≤7):a < (7 + 1):=Nat.lt_of_lt_of_le u (n_t v (Nat.le_of_lt (Nat.lt_succ_self _)))
theorem om198 {a b:Nat} (u:a < b) (v:a=b):False:=Nat.ne_of_lt u v
theorem om199 {a:Nat}:a < (a + 1):=Nat.lt_succ_self _
theorem om200 {a b:Nat} (u:¬(b≤a)):(a + 1)≤b:=Nat.lt_of_not_le u
theorem om201 {a:Nat} (u:(a + 1)≤a):False:=Nat.not_succ_le_self a u
theorem om202 {a b:Nat} (u:a≤b):(a + 1)≤(1 + b):=n_t (Nat.succ_le_succ u) (n_e (Nat.add_comm b 1))
theorem om203 {a b:Nat} (u:b < a):(a - b)=(((a - b) - 1) + 1):=(Nat.succ_pred_eq_of_pos (Nat.sub_pos_of_lt u)).symm
theorem om204 {a b:Nat} (u:¬(a < b)) (v:¬(b < a)):(a:Int)=(b:Int):=congrArg Nat.cast (Nat.le_antisymm (Nat.le_of_not_lt v) (Nat.le_of_not_lt u))
theorem om205 {a b c:Nat} (u:b=((a + 1) + c)):((a:Int) + 1)≤(b:Int):=(Int.ofNat_le (m:=a + 1)).mpr (n_t (Nat.le_add_right (a + 1) c) (n_e u.symm))
theorem om206 {a b c:Nat} (u:b=((c + 1) + a)):a≤(Int.toNat ((b:Int) - ((c:Int) + 1))):=n_e (Eq.symm ((Int.toNat_sub b (c + 1)).trans ((congrArg (· - (c + 1)) u).trans (Nat.add_sub_cancel_left ..))))
theorem om207 {a:Nat}:(Int.toNat (((a:Int) + 1) - 0))=(a + 1):=congrArg Int.toNat (Int.sub_zero ((a:Int) + 1))
theorem om208 {a b:Nat} (u:a=(b + 1)):(a - 1)=b:=congrArg Nat.pred u
theorem om209 {a b:Nat} (u:a=(b + 1)) (v:(a - 1)=b):(0 + 1)≤a:=Nat.lt_of_le_of_lt (Nat.zero_le _) (Nat.lt_of_lt_of_le (Nat.lt_succ_self _) (n_e (Eq.symm u)))
theorem om210 {a:Nat}:(4 * a)≤((4 * a) + 1):=Nat.le_of_lt (Nat.lt_succ_self _)
theorem om211 {a b c:Nat} (u:b≤(4 * c)) (v:a≤3):((a + 1) + b)≤(4 * (c + 1)):=n_t (Nat.add_le_add (Nat.succ_le_succ v) u) (n_e (Nat.add_comm (3 + 1) (4 * c)))
theorem om212 {a:Nat} (u:(a + 1)≤100):a≤100:=Nat.le_of_lt u
theorem om213 {a b c d:Nat} (u:(b + 1)≤100) (v:c=(b + 1)) (w:a≤((4 * d) + 1)) (x:d≤b):a≤900:=n_t w (n_t (Nat.succ_le_succ (Nat.mul_le_mul_left 4 (n_t x (Nat.le_of_lt u)))) (by decide))
theorem om214 {a b c:Nat} (u:(b + 1)≤100) (v:c=(b + 1)) (w:a≤b):(a + 1)≤900:=n_t (Nat.succ_le_succ w) (n_t u (Nat.le_of_lt (by decide)))
theorem om215 {a b:Nat} (u:b≤20) (v:a≤b):(a + 1)≤100:=Nat.lt_of_le_of_lt v (Nat.lt_of_le_of_lt u (by decide))
theorem om216 {a b c:Nat} (u:b≤20) (v:a≤((4 * c) + 1)) (w:c≤b):a≤900:=n_t v (n_t (Nat.succ_le_succ (Nat.mul_le_mul_left 4 (n_t w u))) (by decide))
theorem om217 {a b:Nat} (u:(a + 1) < (b + 1)):a < b:=Nat.lt_of_lt_of_le (Nat.lt_succ_self _) (Nat.le_of_lt_succ u)
theorem om218 {a b:Nat} (u:a≤(b + 1)) (v:0 < a):(a - 1)≤b:=Nat.sub_le_of_le_add u
theorem om219 {a:Nat}:0 < (a + 1):=Nat.lt_of_le_of_lt (Nat.zero_le _) (Nat.lt_succ_self _)
theorem om220 {a:Nat}:1≤(a + 1):=Nat.le_add_left _ _
theorem om221 {a b:Nat} (u:(a + 1) < b):a < (b - 1):=Nat.lt_sub_of_add_lt u
theorem om222 {a b c:Nat} (u:a≤(b + 1)) (v:(c + 1) < a):(a - 1)≤b:=Nat.sub_le_of_le_add u
theorem om223 {a b:Nat} (u:(b + 1) < a):1≤a:=n_t (Nat.le_add_left _ _) (Nat.le_of_lt u)
theorem om224 {a b c:Nat} (u:c≤(b + 1)) (v:a < c):a≤b:=Nat.le_of_lt_succ (Nat.lt_of_lt_of_le v u)
theorem om225 {a b c:Nat} (u:c < b) (v:a≤c):(a + ((b - c) + (c - a)))=b:=(Nat.add_left_comm a (b - c) (c - a)).trans ((congrArg (b - c + ·) (Nat.add_sub_cancel' v)).trans (Nat.sub_add_cancel (Nat.le_of_lt u)))
theorem om226 {a b:Nat} (u:a≤b):(a + (b - a))=b:=Nat.add_sub_cancel' u
theorem om227 {a b c:Nat} (u:c < b):a < (a + (b - c)):=Nat.lt_add_of_pos_right (Nat.sub_pos_of_lt u)
theorem om228 {a b c:Nat} (u:c < b) (v:b≤7) (w:a≤c):(a + (b - c))≤7:=n_t (n_t (Nat.add_le_add_right w (b - c)) (n_e (Nat.add_sub_cancel' (Nat.le_of_lt u)))) v
theorem om229 {a b c:Nat} (u:a≤c) (v:¬(b≤c)):(a + 1)≤b:=Nat.lt_of_le_of_lt u (Nat.lt_of_not_le v)
theorem om230 {a b c d:Nat} (u:(d + b)≤c) (v:d=(a + 1)):(a + (b + 1))≤c:=n_t (n_e ((Nat.succ_add a b).symm.trans (congrArg (· + b) v.symm))) u
theorem om231 {a b:Nat} (u:1≤a) (v:(b + a)≤b):False:=Nat.not_lt_of_le v (Nat.lt_add_of_pos_right u)
theorem om232 {a b:Nat} (u:b < a):((a - b) + b)=a:=Nat.sub_add_cancel (Nat.le_of_lt u)
theorem om233 {a b c:Nat} (u:c=(b + 1)) (v:c=(a + 1)):a=b:=Nat.succ.inj (v.symm.trans u)
theorem om234 {a:Int} (u:0≤a) (v:a < 7):(Int.toNat a) < 7:=(Int.toNat_lt u).mpr v
theorem om235 {a:Nat} (u:0 < a):0 < (a:Int):=Int.ofNat_lt.mpr u
theorem om236 {b:Nat} {a:Int} (u:0≤a) (v:a < (b:Int)):(Int.toNat a) < b:=(Int.toNat_lt u).mpr v
theorem om237 {a b c:Nat} (u:b=7) (v:a≤((4 * c) + 1)) (w:c≤b):a≤900:=n_t v (n_t (Nat.succ_le_succ (Nat.mul_le_mul_left 4 (n_t w (n_e u)))) (by decide))
theorem om238 {a:Nat} (u:a=7):a≤20:=n_t (n_e u) (Nat.le_of_lt (by decide))
theorem om239 {a b c d:Nat} (u:d=(b + 1)) (v:a=(d + c)):a=(b + (c + 1)):=v.trans ((congrArg (· + c) u).trans (Nat.succ_add b c))
theorem om240 {a b c d:Nat} (u:a=7) (v:b=(c + 7)) (w:c=(d + 1)) (x:b≤a):False:=Nat.not_succ_le_zero d (Nat.le_of_add_le_add_right (a:=d + 1) (b:=7) (c:=0) (n_t (n_e ((congrArg (· + 7) w.symm).trans v.symm)) (n_t x (n_e u))))
theorem om241 {a b c d e:Nat} (u:b < d) (v:(e + b)=c) (w:e=(a + 1)):(a + (b + 1))=c:=(Nat.succ_add a b).symm.trans ((congrArg (· + b) w.symm).trans v)
theorem om242 {a b:Nat} (u:(a + b)=a) (v:0 < b):False:=Nat.ne_of_gt v (Nat.add_left_cancel (m:=b) (k:=0) u)
theorem om243 {a b c:Nat} (u:b=7) (v:a≤c) (w:c≤(2 * b)):a≤60:=n_t v (n_t w (n_t (n_e (congrArg (2 * ·) u)) (by decide)))
theorem om244 {a:Nat} (u:a=7):a≤100:=n_t (n_e u) (Nat.le_of_lt (by decide))
theorem om245 {a b:Nat} (u:(a=7)∧(b=8)):a≤100:=n_t (n_e (And.left u)) (Nat.le_of_lt (by decide))
theorem om246 {a b:Nat} (u:(a=7)∧(b=8)):a≤20:=n_t (n_e (And.left u)) (Nat.le_of_lt (by decide))
theorem mc {α:Type} {P:α->Prop} {a:α} {l:List α} (h:P a) (t:∀ b∈l,P b):∀ b∈a :: l,P b:=List.forall_mem_cons.mpr ⟨h,t⟩
theorem mn {α:Type} {P:α->Prop}:∀ b∈([]:List α),P b:=nofun
theorem m1 {α:Type} {P:α->Prop} {a:α} (h:P a):∀ b∈[a],P b:=mc h mn
theorem gq {G:Prop} (h:∀ G':Prop,(G->G')->G'):G:=h G id
theorem in_envX {p:Model} {A:Around} {b:List Stmt} {e:Env} {R:Flow->Shared->Prop} {E:Value->Shared->Prop} {s:Shared} (h:let v:=e;wpAny p A (execs b v) R E s):wpAny p A (execs b e) R E s:=h
section
variable {a:Model} {b:Around} {c:Str} {d e:Pos} {f:Env} {g h:Value->Shared->Prop} {i:Shared} {j:List Expr} {k l m:Expr} {n:Operator} {o:Const} {p:Nat} {q:CmpOp} {r:UnaryOp} {s t u:Option Expr} {v w x:List Stmt} {y:Flow->Shared->Prop} {z:String} {a1:List Value} {b1:Addr} {c1:Sem Value} {d1:Bool->Shared->Prop} {e1:BoolOp} {f1:Bool} {g1:List Value->Shared->Prop} {h1:Value} {i1:List (Bool×Sem Value)} {j1:List (Option Str×Sem Value)} {k1:Unit->Shared->Prop} {l1:Value->Sem Unit} {m1:List (Value->Sem Unit)} {n1:Frag} {o1:Heap}
noncomputable abbrev zg0:=wpAny a b (eval (.Name c d) f) g h i
noncomputable abbrev zg4:=wpAny a b (eval (.Constant o p d) f) g h i
noncomputable abbrev zg5:=wpAny a b (eval (.Compare k [q] [l] d) f) g h i
noncomputable abbrev zg13:=wpAny a b (eval (.Attribute k c d) f) g h i
noncomputable abbrev zg36:=wpAny a b (callWith d (.ref b1) a1 (backTo e (starEach (k :: j) f)) []) g h i
noncomputable abbrev zg37:=wpAny a b (callWith d (.ref b1) a1 (backTo e (starEach [] f)) []) g h i
noncomputable abbrev zg38:=wpAny a b (isTrue (.Compare k [q] [l] d) f c1) d1 g i
noncomputable abbrev zg41:=wpAny a b (isTrue k f c1) d1 g i
noncomputable abbrev zg47:=wpAny a b (evalPart s f) g h i
noncomputable abbrev zg48:=wpAny a b (eval k f) g h i
noncomputable abbrev zg51:=wpAny a b (callWith d h1 a1 i1 j1) g h i
noncomputable abbrev zg52:=wpAny a b (execs v f) y g i
noncomputable abbrev zg54:=wpAny a b (loadName f c) g h i
noncomputable abbrev zg55:=wpAny a b (storeName f c h1) k1 g i
noncomputable abbrev zg60:=Frag.In n1 o1∧wpAny a b (call (.ref b1) a1) g h i
end
noncomputable abbrev PH:=Addr->Option Obj
inductive BO
 |ex (o:Obj)
 |fr (o:Obj)
noncomputable def BO.ok:BO->Option Obj->Prop
 |.ex o,x=>x=some o
 |.fr o,x=>∃ sl,x=some { o with slots:=sl }
noncomputable abbrev PB:=Addr->Option BO
theorem BO.ok.is {x:BO} {y:Option Obj} (h:x.ok y):∃ o,y=some o:=by
 cases x with
 |ex o=>exact ⟨o,h⟩
 |fr o=>obtain ⟨sl,e⟩:=h;exact ⟨_,e⟩
theorem BO.ok.of {x:BO} {y z:Option Obj} (h:x.ok y) (k:∀ o,y=some o->z=some o):x.ok z:=by
 cases x with
 |ex o=>exact k _ h
 |fr o=>obtain ⟨sl,e⟩:=h;exact ⟨sl,k _ e⟩
theorem BO.ok.eq {x:BO} {y z:Option Obj} (h:x.ok y) (k:z=y):x.ok z:=by rw [k];exact h
noncomputable abbrev PG:Program:=PySem.Challenge.pw_rt0098_01
noncomputable abbrev HF (w:World):Frag:=kK w.params
noncomputable def Over (p:PB) (h:Heap):Prop:=∀ b x,p b=some x->x.ok (h.get? b)
structure Bs (w:World) where
 base:PB
 os:OsState
 mg:Str->Option Value
 mb:Str->Option Value
 X:∀ a o,(HF w).lookup a=some o->base a=some (.ex o)
 g:∀ h,Over base h->h.Ns mainGlobals mg
 b:∀ h,Over base h->h.Ns builtinsNs mb
 nolimit:∀ h,Over base h->h.NoLimit
 gl:∀ x v,nsIn (HF w) mainGlobals x=some (some v)->mg x=some v
 gn:∀ x,nsIn (HF w) mainGlobals x=some none->mg x=none
 bi:∀ x:Str,x≠"__name__"->mb x=bootBuiltins x
 c1:∀ h,Over base h->CodeHd h 323 321
 c2:∀ h,Over base h->CodeHd h 297 293
 h1:base 321=none
 h2:base 293=none
 sm:∃ o,base sysModules=some o
 fenv:List Env
 ff:∀ env∈fenv,env.scope.kind≠.module∧Ex2 λL o=>And3 (env.frame=some L) (base L=some (.fr o)) (∀ vs,o.data≠.fields vs)
 bm:Ex2 λbm ob=>And6 (mg "__builtins__"=some (.ref bm)) (bm≠builtinsNs) (base bm=some (.ex ob)) (ob.cls=.type "module") (ob.dict=some builtinsNs) (ob.data=.plain)
noncomputable def CD (x:Obj):Prop:=∃ vs,x.data=.fields vs
noncomputable def TabOk (g:PH) (h:Heap) (P:Addr) (qual:Str):Prop:=
 ∃ ps,And3 (h.get? P=some (tabObj ps)) (TriplesOk ps.toList) (∀ pos cv,codeAmong pos ps.toList=some cv->Ex4 λc oc vs t=>And4 (cv=.ref c) (g c=some oc) (oc.data=.fields vs) (vs[1]?=some (.str qual t)))
structure Kp {w:World} (B:Bs w) (g:PH) (s:Shared):Prop where
 ov:Over B.base s.heap
 sub:∀ b o,g b=some o->s.heap.get? b=some o
 dis:∀ b o,g b=some o->B.base b=none
 gens:s.gens=#[]
 os:s.os=B.os
 t1:TabOk g s.heap 321 (Str.ofString "_law_read.<locals>.<lambda>")
 t2:TabOk g s.heap 293 (Str.ofString "_law_thing.<locals>.<lambda>")
 h1:g 321=none
 h2:g 293=none
structure St {w:World} (B:Bs w) (L:Addr) (m:Str->Option Value) (g:PH) (s:Shared):Prop where
 kp:Kp B g s
 ns:s.heap.Ns L m
 off:g L=none
 offb:B.base L=none
 o1:L≠321
 o2:L≠293
noncomputable def put (g:PH) (a:Addr) (o:Obj):PH:=λb=>if b=a then some o else g b
@[simp] theorem put_self (g:PH) (a:Addr) (o:Obj):put g a o a=some o:=by simp [put]
theorem put_ne {g:PH} {a b:Addr} {o:Obj} (h:b≠a):put g a o b=g b:=by simp [put,h]
theorem put_of {g:PH} {a b:Addr} {o x:Obj} (ha:g a=none) (e:g b=some x):put g a o b=some x:=by
 rw [put_ne];exact e;rintro rfl;rw [ha] at e;cases e
theorem put_put {g:PH} {a:Addr} {o x:Obj}:put (put g a o) a x=put g a x:=by
 funext b
 by_cases h:b=a
 ·subst h;simp
 ·rw [put_ne h,put_ne h,put_ne h]
theorem put_comm {g:PH} {a b:Addr} {o x:Obj} (h:a≠b):put (put g a o) b x=put (put g b x) a o:=by
 funext c
 by_cases h1:c=a
 ·subst h1;rw [put_ne h,put_self,put_self]
 ·by_cases h2:c=b
  ·subst h2;rw [put_self,put_ne h1,put_self]
  ·rw [put_ne h2,put_ne h1,put_ne h1,put_ne h2]
section
variable {w:World} {B:Bs w} {L:Addr} {m:Str->Option Value} {g:PH} {s:Shared}
theorem Over.keeps {p:PB} {h h':Heap} (x:Over p h) (hk:∀ b o,h.get? b=some o->h'.get? b=some o):Over p h':=λb o e=>(x b o e).of λo e=>hk b o e
theorem St.ov (S:St B L m g s):Over B.base s.heap:=S.kp.ov
theorem St.sub (S:St B L m g s) {b:Addr} {o:Obj} (e:g b=some o):s.heap.get? b=some o:=S.kp.sub b o e
theorem Kp.toks (S:Kp B g s) (k:Nat):Kp B g { s with toks:=k }:=⟨S.ov,S.sub,S.dis,S.gens,S.os,S.t1,S.t2,S.h1,S.h2⟩
theorem St.toks (S:St B L m g s) (k:Nat):St B L m g { s with toks:=k }:=⟨S.kp.toks k,S.ns,S.off,S.offb,S.o1,S.o2⟩
theorem TabOk.mono {g g':PH} {h h':Heap} {P:Addr} {q:Str} (t:TabOk g h P q) (hP:∀ o,h.get? P=some o->h'.get? P=some o) (hg:∀ b o,CD o->g b=some o->g' b=some o):TabOk g' h' P q:=by
 obtain ⟨ps,h1,h2,h3⟩:=t;refine ⟨ps,hP _ h1,h2,λpos cv e=>?_⟩;obtain ⟨c,oc,vs,t,e1,e2,e3,e4⟩:=h3 pos cv e;exact ⟨c,oc,vs,t,e1,hg _ _ ⟨vs,e3⟩ e2,e3,e4⟩
theorem Kp.grow (K:Kp B g s) {h':Heap} (hk:∀ b o,s.heap.get? b=some o->h'.get? b=some o) (tk:Nat):Kp B g { s with heap:=h',toks:=tk }:=
 ⟨K.ov.keeps hk,λb o e=>hk _ _ (K.sub b o e),K.dis,K.gens,K.os,K.t1.mono (λ_ e=>hk _ _ e) (λ_ _ _ e=>e),K.t2.mono (λ_ e=>hk _ _ e) (λ_ _ _ e=>e),K.h1,K.h2⟩
theorem St.grow (S:St B L m g s) {h':Heap} (hk:∀ b o,s.heap.get? b=some o->h'.get? b=some o) (tk:Nat):St B L m g { s with heap:=h',toks:=tk }:=
 ⟨S.kp.grow hk tk,S.ns.keeps hk,S.off,S.offb,S.o1,S.o2⟩
theorem St.push (S:St B L m g s) (o:Obj) (tk:Nat):St B L m g { s with heap:=s.heap.push o,toks:=tk }:=S.grow (λ_ _ e=>Heap.get?_push_of_some _ e) tk
theorem St.kept:KeptByPush (St B L m g):=λ_ ob k S=>S.push ob k
theorem none_of_size {p:PB} {h:Heap} (x:Over p h) {b:Addr} (hb:h.objs.size≤b):p b=none:=by
 cases e:p b with
 |none=>rfl
 |some o=>
  obtain ⟨o',e'⟩:=(x _ _ e).is;exact absurd (Heap.lt_size e') (Nat.not_lt.mpr hb)
theorem Kp.fresh (K:Kp B g s) {b:Addr} (hb:s.heap.objs.size≤b):g b=none:=by
 cases e:g b with
 |none=>rfl
 |some o=>exact absurd (Heap.lt_size (K.sub _ _ e)) (Nat.not_lt.mpr hb)
theorem Kp.freshB (K:Kp B g s) {b:Addr} (hb:s.heap.objs.size≤b):B.base b=none:=none_of_size K.ov hb
theorem Kp.newCode (K:Kp B g s) {a:Addr} {o:Obj} (ho:s.heap.get? a=some o) (b:Addr) (x:Obj) (_:CD x) (e:g b=some x):put g a o b=some x:=by
 by_cases hb:b=a
 ·subst hb;rw [K.sub _ _ e] at ho;cases ho;exact put_self ..
 ·rw [put_ne hb];exact e
theorem Kp.new (K:Kp B g s) {a:Addr} {o:Obj} (ho:s.heap.get? a=some o) (hb:B.base a=none) (h1:a≠321) (h2:a≠293):Kp B (put g a o) s where
 ov:=K.ov
 sub:=λb x e=>by
  by_cases hb:b=a
  ·subst hb;rw [put_self] at e;cases e;exact ho
  ·rw [put_ne hb] at e;exact K.sub _ _ e
 dis:=λb x e=>by
  by_cases hb:b=a
  ·subst hb;exact hb
  ·rw [put_ne hb] at e;exact K.dis _ _ e
 gens:=K.gens
 os:=K.os
 t1:=K.t1.mono (λ_ e=>e) (K.newCode ho)
 t2:=K.t2.mono (λ_ e=>e) (K.newCode ho)
 h1:=by rw [put_ne (Ne.symm h1)];exact K.h1
 h2:=by rw [put_ne (Ne.symm h2)];exact K.h2
theorem Kp.size (K:Kp B g s):321 < s.heap.objs.size∧293 < s.heap.objs.size:=by
 obtain ⟨_,e1,_⟩:=K.t1;obtain ⟨_,e2,_⟩:=K.t2;exact ⟨Heap.lt_size e1,Heap.lt_size e2⟩
theorem Kp.set (K:Kp B g s) {a:Addr} {o o':Obj} {h':Heap} (ha:g a=some o) (hc:¬ CD o) (hs:Heap.SameBut a s.heap h') (ho:h'.get? a=some o') (tk:Nat) :
  Kp B (put g a o') { s with heap:=h',toks:=tk }:=by
 have n1:(321:Addr)≠a:=by rintro rfl;rw [K.h1] at ha;cases ha
 have n2:(293:Addr)≠a:=by rintro rfl;rw [K.h2] at ha;cases ha
 have code:∀ b x,CD x->g b=some x->put g a o' b=some x:=λb x hx e=>by
  refine (put_ne ?_).trans e;rintro rfl;rw [ha] at e;cases e;exact absurd hx hc
 refine ⟨λb x e=>?_,λb x e=>?_,λb x e=>?_,K.gens,K.os,K.t1.mono (λo e=>(hs.2 _ n1).trans e) code,K.t2.mono (λo e=>(hs.2 _ n2).trans e) code,(put_ne n1).trans K.h1,(put_ne n2).trans K.h2⟩
 ·refine (K.ov _ _ e).eq (hs.2 _ ?_);rintro rfl;rw [K.dis _ _ ha] at e;cases e
 ·by_cases hba:b=a
  ·subst hba;rw [put_self] at e;cases e;exact ho
  ·rw [put_ne hba] at e;exact (hs.2 _ hba).trans (K.sub _ _ e)
 ·by_cases hba:b=a
  ·subst hba;exact K.dis _ _ ha
  ·rw [put_ne hba] at e;exact K.dis _ _ e
theorem St.ne (S:St B L m g s) {a:Addr} {o:Obj} (ha:g a=some o):L≠a:=by rintro rfl;rw [S.off] at ha;cases ha
theorem St.set (S:St B L m g s) {a:Addr} {o o':Obj} {h':Heap} (ha:g a=some o) (hc:¬ CD o) (hs:Heap.SameBut a s.heap h') (ho:h'.get? a=some o') (tk:Nat) :
  St B L m (put g a o') { s with heap:=h',toks:=tk }:=
 ⟨S.kp.set ha hc hs ho tk,S.ns.sameBut hs (S.ne ha),(put_ne (S.ne ha)).trans S.off,S.offb,S.o1,S.o2⟩
theorem St.alloc (S:St B L m g s) (o:Obj) (tk:Nat) (hf:o.isFreed=false:=by rfl):St B L m (put g s.heap.objs.size o) { s with heap:=s.heap.push o,toks:=tk }:=by
 have S':=S.push o tk;have hL:L≠s.heap.objs.size:=Nat.ne_of_lt S.ns.lt;have hz:=S.kp.size;exact ⟨S'.kp.new (Heap.get?_push_size _ hf) (S.kp.freshB (Nat.le_refl _)) (Nat.ne_of_gt hz.1) (Nat.ne_of_gt hz.2),S'.ns,(put_ne hL).trans S.off,S.offb,S.o1,S.o2⟩
theorem St.store (S:St B L m g s) {m':Str->Option Value} {h':Heap} (hn:h'.Ns L m') (hs:Heap.SameBut L s.heap h') (tk:Nat):St B L m' g { s with heap:=h',toks:=tk }:=by
 have code:∀ b x,CD x->g b=some x->g b=some x:=λ_ _ _ e=>e
 exact ⟨⟨λb o e=>(S.ov _ _ e).eq (hs.2 _ (by rintro rfl;rw [S.offb] at e;cases e)),λb o e=>(hs.2 _ (by rintro rfl;rw [S.off] at e;cases e)).trans (S.kp.sub _ _ e),S.kp.dis,S.kp.gens,S.kp.os,
  S.kp.t1.mono (λ_ e=>(hs.2 _ S.o1.symm).trans e) code,S.kp.t2.mono (λ_ e=>(hs.2 _ S.o2.symm).trans e) code,S.kp.h1,S.kp.h2⟩,hn,S.off,S.offb,S.o1,S.o2⟩
noncomputable def extB (b r:PB):PB:=λa=>match b a with|some o=>some o|none=>r a
theorem extB_of {b r:PB} {a:Addr} {o:BO} (h:b a=some o):extB b r a=some o:=by unfold extB;rw [h]
theorem extB_new {b r:PB} {a:Addr} (h:b a=none):extB b r a=r a:=by unfold extB;rw [h]
theorem over_ext {b r:PB} {h:Heap} (x:Over (extB b r) h):Over b h:=λa o e=>x a o (extB_of e)
noncomputable def Bs.ext (B:Bs w) (r:PB) (h1:r 321=none) (h2:r 293=none):Bs w where
 base:=extB B.base r
 os:=B.os
 mg:=B.mg
 mb:=B.mb
 X:=λa o e=>extB_of (B.X a o e)
 g:=λh x=>B.g h (over_ext x)
 b:=λh x=>B.b h (over_ext x)
 nolimit:=λh x=>B.nolimit h (over_ext x)
 gl:=B.gl
 gn:=B.gn
 bi:=B.bi
 c1:=λh x=>B.c1 h (over_ext x)
 c2:=λh x=>B.c2 h (over_ext x)
 h1:=by rw [extB_new B.h1];exact h1
 h2:=by rw [extB_new B.h2];exact h2
 sm:=let ⟨o,e⟩:=B.sm;⟨o,extB_of e⟩
 fenv:=B.fenv
 ff:=λenv he=>let ⟨a,L,o,b,c,d⟩:=B.ff env he;⟨a,L,o,b,extB_of c,d⟩
 bm:=let ⟨bm,ob,a,b,c,d,e,f⟩:=B.bm;⟨bm,ob,a,b,extB_of c,d,e,f⟩
theorem Kp.ext (K:Kp B g s) {r:PB} (h1:r 321=none) (h2:r 293=none) (hr:∀ b o,r b=some o->o.ok (s.heap.get? b)∧g b=none):Kp (B.ext r h1 h2) g s where
 ov:=λb o e=>by
  change extB B.base r b=some o at e;cases q:B.base b with
  |some x=>rw [extB_of q] at e;cases e;exact K.ov _ _ q
  |none=>rw [extB_new q] at e;exact (hr _ _ e).1
 sub:=K.sub
 dis:=λb o e=>by
  change extB B.base r b=none;rw [extB_new (K.dis _ _ e)];cases q:r b with
  |none=>rfl
  |some x=>rw [(hr _ _ q).2] at e;cases e
 gens:=K.gens
 os:=K.os
 t1:=K.t1
 t2:=K.t2
 h1:=K.h1
 h2:=K.h2
theorem Kp.unext {r:PB} {h1:r 321=none} {h2:r 293=none} (K:Kp (B.ext r h1 h2) g s):Kp B g s where
 ov:=over_ext K.ov
 sub:=K.sub
 dis:=λb o e=>by
  have:=K.dis _ _ e;change extB B.base r b=none at this;cases q:B.base b with
  |none=>rfl
  |some x=>rw [extB_of q] at this;cases this
 gens:=K.gens
 os:=K.os
 t1:=K.t1
 t2:=K.t2
 h1:=K.h1
 h2:=K.h2
noncomputable def one (a:Addr) (o:BO):PB:=λb=>if b=a then some o else none
theorem one_self {a:Addr} {o:BO}:one a o a=some o:=if_pos rfl
theorem one_some {a b:Addr} {o x:BO} (e:one a o b=some x):b=a∧x=o:=by
 by_cases h:b=a
 ·subst h;rw [one_self] at e;cases e;exact ⟨rfl,rfl⟩
 ·have:one a o b=none:=if_neg h;rw [this] at e;cases e
theorem one_none {a b:Addr} {o:BO} (h:b≠a):one a o b=none:=if_neg h
theorem St.In (S:St B L m g s):(HF w).In s.heap:=λa o e=>S.ov _ _ (B.X _ _ e)
theorem St.callx (S:St B L m g s):∃ (r:PB) (h1:r 321=none) (h2:r 293=none),Kp (B.ext r h1 h2) g s∧∀ s' g',Kp (B.ext r h1 h2) g' s'->St B L m g' s':=by
 obtain ⟨oL,es,ep,hL,hd,hk,hf⟩:=id S.ns;refine ⟨one L (.fr oL),one_none S.o1.symm,one_none S.o2.symm,S.kp.ext _ _ λb o e=>?_,λs' g' K=>?_⟩
 ·obtain ⟨rfl,rfl⟩:=one_some e;exact ⟨⟨oL.slots,hL⟩,S.off⟩
 ·have hb:(B.ext (one L (.fr oL)) (one_none S.o1.symm) (one_none S.o2.symm)).base L=some (.fr oL):=by show extB _ _ _=_;rw [extB_new S.offb];exact one_self
  obtain ⟨sl,hb'⟩:=K.ov _ _ hb;refine ⟨K.unext,⟨_,es,ep,hb',hd,hk,hf⟩,?_,S.offb,S.o1,S.o2⟩;cases q:g' L with
  |none=>rfl
  |some x=>have:=K.dis _ _ q;rw [hb] at this;cases this
theorem St.call {G:Prop} (S:St B L m g s) (h:∀ B':Bs w,Kp B' g s->(∀ s' g',Kp B' g' s'->St B L m g' s')->G):G:=S.callx.elim λ_ q=>q.elim λ_ q=>q.elim λ_ q=>h _ q.1 q.2
end
structure Rm (A:Around) (k:Nat):Prop where
 d:A.depth + k < 400
 u:A.units + 16 * k < 8000
theorem Rm.le {A:Around} {k j:Nat} (h:Rm A k) (hj:j≤k):Rm A j:=⟨by have:=h.d;omega,by have:=h.u;omega⟩
theorem Rm.deeper {A:Around} {k:Nat} {env:Env} (h:Rm A (k + 1)):Rm (A.deeper env) k:=⟨by have:=h.d;show A.depth + 1 + k < 400;omega,by have:=h.u;show A.units + 3 + 16 * k < 8000;omega⟩
theorem in_AV {A:Around} {e:Env} {k:Nat} {P:Around->Env->Prop} (hr:Rm A (k + 1)) (h:∀ A',Rm A' k->A'.handled=A.handled->let v:=e;P A' v):P (A.deeper e) e:=h _ hr.deeper rfl
theorem Rm.in1 {A:Around} {k:Nat} (h:Rm A (k + 1)):Rm A.in1 k:=⟨by have:=h.d;show A.depth + k < 400;omega,by have:=h.u;show A.units + 1 + 16 * k < 8000;omega⟩
noncomputable def glTab:List (Str×Value):=[(Str.ofString "_NODE_OUT",.int (Int.negSucc 0) 197),(Str.ofString "_NODE_DONE",.int (Int.negSucc 1) 200),(Str.ofString "_NodeInfo",.ref 40),(Str.ofString "CycleError",.ref 55),(Str.ofString "TopologicalSorter",.ref 137),(Str.ofString "fspath",.ref 214),(Str.ofString "_get_sep",.ref 228),(Str.ofString "join",.ref 235),(Str.ofString "basename",.ref 242),(Str.ofString "dirname",.ref 249),(Str.ofString "commonpath",.ref 254),(Str.ofString "get_parent_map",.ref 261),(Str.ofString "_SelectorContext",.ref 278),(Str.ofString "SubElement",.ref 291),(Str.ofString "_law_thing",.ref 298),(Str.ofString "_law_grown",.ref 305),(Str.ofString "_law_came",.ref 312),(Str.ofString "_law_laid",.ref 319),(Str.ofString "_law_read",.ref 324),(Str.ofString "_law_due",.ref 329)]
noncomputable def biTab:List (Str×Value):=[(Str.ofString "type",.type "type"),(Str.ofString "str",.type "str"),(Str.ofString "bytes",.type "bytes"),(Str.ofString "tuple",.type "tuple"),(Str.ofString "map",.type "map"),(Str.ofString "enumerate",.type "enumerate"),(Str.ofString "set",.type "set"),(Str.ofString "list",.type "list"),(Str.ofString "range",.type "range"),(Str.ofString "zip",.type "zip"),(Str.ofString "reversed",.type "reversed"),(Str.ofString "StopIteration",.type "StopIteration"),(Str.ofString "issubclass",.builtin "issubclass"),(Str.ofString "isinstance",.builtin "isinstance"),(Str.ofString "min",.builtin "min"),(Str.ofString "max",.builtin "max"),(Str.ofString "len",.builtin "len"),(Str.ofString "iter",.builtin "iter"),(Str.ofString "sorted",.builtin "sorted"),(Str.ofString "sum",.builtin "sum"),(Str.ofString "abs",.builtin "abs")]
noncomputable def fnTab:List Addr:=[40,137,278,36,73,80,87,92,99,120,127,275,214,228,235,242,249,254,261,291,298,305,312,319,324,329]
theorem gl_all (P:Params):(glTab.all λp=>nsIn (kK P) mainGlobals p.1 == some (some p.2))=true:=by kernel_rfl
theorem bi_all (P:Params):(biTab.all λp=>nsIn (kK P) mainGlobals p.1 == some none && (p.1 != Str.ofString "__name__") && bootBuiltins p.1 == some p.2)=true:=by kernel_rfl
theorem fn_all (P:Params):(fnTab.all λa=>keepIn (kK P) (.ref a))=true:=by kernel_rfl
theorem mem_of_lookup {x:Str} {v:Value}:∀ {l:List (Str×Value)},l.lookup x=some v->(x,v)∈l
 |(y,w) :: l,h=>by
  rw [List.lookup_cons] at h
  by_cases e:(x == y)=true
  ·rw [e] at h;cases h;rw [beq_iff_eq.mp e];exact .head _
  ·simp only [e] at h;exact .tail _ (mem_of_lookup h)
theorem gl_tab {w:World} (B:Bs w) {x:Str} {v:Value} (h:glTab.lookup x=some v):B.mg x=some v:=
 B.gl _ _ (beq_iff_eq.mp (List.all_eq_true.mp (gl_all w.params) _ (mem_of_lookup h)))
theorem bi_tab {w:World} (B:Bs w) {x:Str} {v:Value} (h:biTab.lookup x=some v):B.mg x=none∧B.mb x=some v:=by
 have q:=List.all_eq_true.mp (bi_all w.params) _ (mem_of_lookup h);simp only [Bool.and_eq_true,beq_iff_eq,bne_iff_ne,ne_eq] at q;exact ⟨B.gn _ q.1.1,(B.bi _ q.1.2).trans q.2⟩
theorem fn_tab (w:World) {a:Addr} (h:fnTab.contains a=true):keepIn (HF w) (.ref a)=true:=List.all_eq_true.mp (fn_all w.params) _ (List.contains_iff_mem.mp h)
noncomputable def up (m:Str->Option Value) (x:Str) (v:Value):Str->Option Value:=λy=>if y=x then some v else m y
theorem up_hit {m:Str->Option Value} {x:Str} {v:Value}:up m x v x=some v:=if_pos rfl
theorem up_miss {m:Str->Option Value} {x y:Str} {v:Value} {w:Option Value} (h:y≠x) (e:m y=w):up m x v y=w:=(if_neg h).trans e
section
variable {w:World} {B:Bs w} {A:Around} {L:Addr} {m:Str->Option Value} {g:PH} {s:Shared} {env:Env} {E:Value->Shared->Prop}
theorem r_local {x:Str} {pos:Pos} {v:Value} {Q:Value->Shared->Prop} (S:St B env.locals m g s) (hv:m x=some v) (h:Q v s)
  (hk:env.scope.kind=.function:=by rfl) (hl:env.kindOf x=some .local:=by rfl) (hd:(x == ("__debug__":Str))=false:=by decide) :
  wpAny (model PG w) A (eval (.Name x pos) env) Q E s:=wpAny_Name (wpAny_loadName_local hk hl S.ns hv h) hd
theorem r_localN {x:Str} {v:Value} {Q:Value->Shared->Prop} (S:St B env.locals m g s) (hv:m x=some v) (h:Q v s)
  (hk:env.scope.kind=.function:=by rfl) (hl:env.kindOf x=some .local:=by rfl) :
  wpAny (model PG w) A (loadName env x) Q E s:=wpAny_loadName_local hk hl S.ns hv h
theorem r_global {x:Str} {pos:Pos} {v:Value} {Q:Value->Shared->Prop} (S:St B L m g s) (e:B.mg x=some v) (h:Q v s)
  (hk:env.scope.kind=.function:=by rfl) (hx:env.kindOf x=some .globalImplicit:=by rfl) (hg:env.globals=mainGlobals:=by rfl) (hd:(x == ("__debug__":Str))=false:=by decide) :
  wpAny (model PG w) A (eval (.Name x pos) env) Q E s:=
 Name_function_global hk hx (loadGlobal_global (env:=env) (by rw [hg];exact B.g _ S.ov) e h) hd
theorem r_builtin {x:Str} {pos:Pos} {v:Value} {Q:Value->Shared->Prop} (S:St B L m g s) (e:B.mg x=none∧B.mb x=some v) (h:Q v s)
  (hk:env.scope.kind=.function:=by rfl) (hx:env.kindOf x=some .globalImplicit:=by rfl) (hg:env.globals=mainGlobals:=by rfl) (hb:env.builtins=builtinsNs:=by rfl) (hd:(x == ("__debug__":Str))=false:=by decide) :
  wpAny (model PG w) A (eval (.Name x pos) env) Q E s:=
 Name_function_global hk hx (loadGlobal_builtin (env:=env) (by rw [hg];exact B.g _ S.ov) e.1 (by rw [hb];exact B.b _ S.ov) e.2 h) hd
theorem r_int {i:Int} {k:Nat} {pos:Pos} {Q:Value->Shared->Prop} (S:St B L m g s) (h:∀ s' tk,St B L m g s'->Q (.int i tk) s'):wpAny (model PG w) A (eval (.Constant (.int i) k pos) env) Q E s:=
 wpAny_Constant_int (h _ _ (S.toks _))
theorem r_str {x:Str} {k:Nat} {pos:Pos} {Q:Value->Shared->Prop} (S:St B L m g s) (h:∀ s' tk,St B L m g s'->Q (.str x tk) s'):wpAny (model PG w) A (eval (.Constant (.str x) k pos) env) Q E s:=
 wpAny_Constant_str (h _ _ (S.toks _))
theorem r_store {x:Str} {v:Value} {Q:Unit->Shared->Prop} (S:St B env.locals m g s) (h:∀ s',St B env.locals (up m x v) g s'->Q () s')
  (hk:env.scope.kind=.function:=by rfl) (hl:env.kindOf x=some .local:=by rfl):wpAny (model PG w) A (storeName env x v) Q E s:=
 wpAny_storeName_local hl S.ns (λ_ hn hs=>h _ (S.store hn hs _)) (by rw [hk];rfl)
theorem x_nil {Q:Flow->Shared->Prop} (h:Q .next s):wpAny (model PG w) A (execs [] env) Q E s:=wpAny_execs_nil h
theorem x_assign {x:Str} {p' pos:Pos} {value:Expr} {rest:List Stmt} {Q:Flow->Shared->Prop}
  (h:wpAny (model PG w) A (eval value env) (λv s₁=>wpAny (model PG w) A (storeName env x v) (λ_ s₂=>wpAny (model PG w) A (execs rest env) Q E s₂) E s₁) E s)
  (hs:swapsWith value (some (.Name x p')) pos.line env=pure false:=by with_unfolding_all rfl):wpAny (model PG w) A (execs (.Assign [.Name x p'] value pos :: rest) env) Q E s:=
 wpAny_execs_cons (wpAny_Assign_Name h hs)
theorem x_ret {e:Expr} {pos:Pos} {rest:List Stmt} {Q:Flow->Shared->Prop} (h:wpAny (model PG w) A (eval e env) (λv s₁=>Q (.ret v) s₁) E s):wpAny (model PG w) A (execs (.Return (some e) pos :: rest) env) Q E s:=
 wpAny_execs_cons (wpAny_Return_some h)
theorem x_expr {e:Expr} {pos:Pos} {rest:List Stmt} {Q:Flow->Shared->Prop} (h:wpAny (model PG w) A (eval e env) (λ_ s₁=>wpAny (model PG w) A (execs rest env) Q E s₁) E s)
  (hi:interactive env=false:=by with_unfolding_all rfl) (hs:swapsWith e none pos.line env=pure false:=by with_unfolding_all rfl):wpAny (model PG w) A (execs (.Expr e pos :: rest) env) Q E s:=
 wpAny_execs_cons (wpAny_Expr_any h hi hs)
theorem x_if {test:Expr} {body orelse:List Stmt} {pos:Pos} {rest:List Stmt} {Q:Flow->Shared->Prop}
  (h:∀ R1:Flow->Shared->Prop,(∀ f s',(match f with|.next=>wpAny (model PG w) A (execs rest env) Q E s'|f=>Q f s')->R1 f s')->wpAny (model PG w) A (PySem.isTrue test env (eval test env)) (λb s₂=>wpAny (model PG w) A (execs (if b then body else orelse) env) R1 E s₂) E s) :
  wpAny (model PG w) A (execs (.If test body orelse pos :: rest) env) Q E s:=
 wpAny_execs_cons (wpAny_If (wpAny_mono (h _ λ_ _ h=>h) (λb s₂ h₂=>by cases b <;> exact h₂) λ_ _ e=>e))
theorem x_aug {x:Str} {p' pos:Pos} {op:Operator} {value:Expr} {rest:List Stmt} {Q:Flow->Shared->Prop}
  (h:wpAny (model PG w) A (loadName env x) (λold s₁=>wpAny (model PG w) A (eval value env) (λv s₂=>wpAny (model PG w) A (inplaceOp op old v) (λr s₃=>wpAny (model PG w) A (storeName env x r) (λ_ s₄=>wpAny (model PG w) A (execs rest env) Q E s₄) E s₃) E s₂) E s₁) E s) :
  wpAny (model PG w) A (execs (.AugAssign (.Name x p') op value pos :: rest) env) Q E s:=wpAny_execs_cons (wpAny_AugAssign_Name h)
theorem r_callName {x:Str} {np pos:Pos} {args:List Expr} {Q:Value->Shared->Prop}
  (h:wpAny (model PG w) A (eval (.Name x np) env) (λf s₁=>wpAny (model PG w) A (callWith pos f [] (backTo pos (starEach args env)) []) Q E s₁) E s):wpAny (model PG w) A (eval (.Call (.Name x np) args [] pos) env) Q E s:=
 wpAny_Call_NameR h
theorem r_trees {e:Expr} {pos:Pos} {rest:List Expr} {Q:List Value->Shared->Prop}
  (h:wpAny (model PG w) A (eval e env) (λv s₁=>wpAny (model PG w) A (spliced (backTo pos (starEach rest env))) (λvs s₂=>Q (v :: vs) s₂) E s₁) E s)
  (he:starEach (e :: rest) env=(false,eval e env) :: starEach rest env:=by with_unfolding_all rfl):wpAny (model PG w) A (spliced (backTo pos (starEach (e :: rest) env))) Q E s:=by
 rw [he];exact spliced_cons h
theorem r_trees0 {pos:Pos} {Q:List Value->Shared->Prop} (h:Q [] s):wpAny (model PG w) A (spliced (backTo pos (starEach [] env))) Q E s:=spliced_nil h
theorem r_cwBuiltin {pos:Pos} {id:String} {first:List Value} {e:Expr} {rest:List Expr} {Q:Value->Shared->Prop}
  (h:wpAny (model PG w) A (spliced (backTo pos (starEach (e :: rest) env))) (λvs s₁=>wpAny (model PG w) A (call (.builtin id) (first ++ vs)) Q E s₁) E s)
  (he:starEach (e :: rest) env=(false,eval e env) :: starEach rest env:=by with_unfolding_all rfl) (hp:(backTo pos (starEach rest env)).any (·.1)=false:=by with_unfolding_all rfl) :
  wpAny (model PG w) A (callWith pos (.builtin id) first (backTo pos (starEach (e :: rest) env)) []) Q E s:=by
 rw [he] at h ⊢;exact callWith_builtin (by show (false || (backTo pos (starEach rest env)).any (·.1))=false;rw [hp];rfl) (evalArgs_plain h)
theorem r_cwBuiltin0 {pos:Pos} {id:String} {first:List Value} {Q:Value->Shared->Prop} (h:wpAny (model PG w) A (call (.builtin id) first) Q E s) :
  wpAny (model PG w) A (callWith pos (.builtin id) first (backTo pos (starEach [] env)) []) Q E s:=by
 exact callWith_builtin rfl (evalArgs_nil3 (by rw [List.append_nil];exact h))
theorem r_cwType {pos:Pos} {id:String} {e:Expr} {rest:List Expr} {Q:Value->Shared->Prop}
  (h:wpAny (model PG w) A (spliced (backTo pos (starEach (e :: rest) env))) (λvs s₁=>wpAny (model PG w) A (call (.type id) vs) Q E s₁) E s)
  (he:starEach (e :: rest) env=(false,eval e env) :: starEach rest env:=by with_unfolding_all rfl) (hp:(backTo pos (starEach rest env)).any (·.1)=false:=by with_unfolding_all rfl) :
  wpAny (model PG w) A (callWith pos (.type id) [] (backTo pos (starEach (e :: rest) env)) []) Q E s:=by
 rw [he] at h ⊢;exact PyProof.Rows.callWith_type (by show (false || (backTo pos (starEach rest env)).any (·.1))=false;rw [hp];rfl) (evalArgs_plain h)
theorem r_cwType0 {pos:Pos} {id:String} {Q:Value->Shared->Prop} (h:wpAny (model PG w) A (call (.type id) []) Q E s) :
  wpAny (model PG w) A (callWith pos (.type id) [] (backTo pos (starEach [] env)) []) Q E s:=callWith_type0 h
theorem r_cwDef {pos:Pos} {a:Addr} {first:List Value} {e:Expr} {rest:List Expr} {Q:Value->Shared->Prop} (hf:keepIn (HF w) (.ref a)=true)
  (h:wpAny (model PG w) A (spliced (backTo pos (starEach (e :: rest) env))) (λvs s₁=>(HF w).In s₁.heap∧wpAny (model PG w) A (call (.ref a) (first ++ vs)) Q E s₁) E s)
  (he:starEach (e :: rest) env=(false,eval e env) :: starEach rest env:=by rfl) (hplain:(backTo pos (starEach rest env)).any (·.1)=false:=by rfl) :
  wpAny (model PG w) A (callWith pos (.ref a) first (backTo pos (starEach (e :: rest) env)) []) Q E s:=by
 rw [he] at h ⊢;exact callWith_of (by show ((false || (backTo pos (starEach rest env)).any (·.1)) || false)=false;rw [hplain];rfl) (keeps_K hf) (evalArgs_plain h)
theorem r_cwDef0 {pos:Pos} {a:Addr} {first:List Value} {Q:Value->Shared->Prop} (S:St B L m g s) (hf:keepIn (HF w) (.ref a)=true) (h:wpAny (model PG w) A (call (.ref a) first) Q E s) :
  wpAny (model PG w) A (callWith pos (.ref a) first (backTo pos (starEach [] env)) []) Q E s:=
 callWith_of rfl (keeps_K hf) (evalArgs_nil3 ⟨λa o e=>S.ov _ _ (B.X _ _ e),by rw [List.append_nil];exact h⟩)
theorem r_meth {o:Expr} {name:Str} {apos pos:Pos} {args:List Expr} {T id:String} {Q:Value->Shared->Prop} (hp:PlainAttrs T) (hs:Slot T name id) (ht:typeOf (.builtin id)=pure (.type "method_descriptor"))
  (h:wpAny (model PG w) A (eval o env) (λov s₁=>s₁.TypeIs ov T∧(∀ a,ov=.ref a->∃ ob,s₁.heap.get? a=some ob∧ob.dict=none)∧wpAny (model PG w) A (callWith pos (.builtin id) [ov] (backTo pos (starEach args env)) []) Q E s₁) E s)
  (h1:attributeBase o name env (eval o env)=eval o env:=by rfl)
  (h2:(((backTo pos (starEach args env)).all λx=>!x.1) && ((backToKw pos (keywordEach [] env)).all λx=>x.1.isSome) && decide (args.length + ([]:List Keyword).length + (if ([]:List Keyword).isEmpty then 0 else 1) < 30))=true:=by rfl)
  (h3:(apos.endLine == pos.line)=true:=by rfl):wpAny (model PG w) A (eval (.Call (.Attribute o name apos) args [] pos) env) Q E s:=
 wpAny_Call_method h1 h2 h3 hp hs ht h
theorem r_strMeth {o:Expr} {name:Str} {apos pos:Pos} {args:List Expr} {id:String} {Q:Value->Shared->Prop} (hs:Slot "str" name id) (ht:typeOf (.builtin id)=pure (.type "method_descriptor"))
  (h:wpAny (model PG w) A (eval o env) (λov s₁=>Ex2 λx t=>ov=.str x t∧wpAny (model PG w) A (callWith pos (.builtin id) [.str x t] (backTo pos (starEach args env)) []) Q E s₁) E s)
  (h1:attributeBase o name env (eval o env)=eval o env:=by rfl)
  (h2:(((backTo pos (starEach args env)).all λx=>!x.1) && ((backToKw pos (keywordEach [] env)).all λx=>x.1.isSome) && decide (args.length + ([]:List Keyword).length + (if ([]:List Keyword).isEmpty then 0 else 1) < 30))=true:=by rfl)
  (h3:(apos.endLine == pos.line)=true:=by rfl):wpAny (model PG w) A (eval (.Call (.Attribute o name apos) args [] pos) env) Q E s:=
 r_meth F.plainAttrs_str hs ht (wpAny_mono h (λov s₁ h₁=>by
  obtain ⟨x,t,rfl,h₁⟩:=h₁;exact ⟨typeIs_str _ _ _,(λ_ e=>by cases e),h₁⟩) λ_ _ e=>e) h1 h2 h3
theorem r_defCall {a:Addr} {vs:List Value} {Q:Value->Shared->Prop} (h:codeAny (model PG w) A (.call (.ref a) ⟨vs,[]⟩) (λr s'=>match r with|.ok (.ret v)=>Q v s'|.ok _=>False|.error e=>E e s') s) :
  wpAny (model PG w) A (call (.ref a) vs) Q E s:=wpAny_call h
theorem call_fn {k:Nat} {R:Result->Shared->Prop} {name qual:Str} {params:Arguments} {body:List Stmt} {scope:Scope} {dV kV doc pm cdv ct oc:Value} {an od:Option Addr} {osl:Array (Option Value)} {f:Addr} {args:Args} {binds:List (Str×Value)}
  (K:Kp B g s) (hr:Rm A k) (ho:(HF w).lookup f=some ⟨oc,od,.func (fnX name qual params body scope [] dV kV doc pm an cdv ct),osl⟩) (hcd:codeIn (HF w) cdv qual=true)
  (hbind:BindsTo s (fnX name qual params body scope [] dV kV doc pm an cdv ct) args binds) (hloc:(binds.all λx=>decide (scope.names.lookup x.1=some .local))=true)
  (h:∀ L s' E',St B L (λy=>binds.reverse.lookup y) g s' ->
   wpAny (model PG w) (A.deeper (envX qual scope L f cdv [])) (execs body (envX qual scope L f cdv [])) (λfl s'=>R (.ok (.ret (match fl with|.ret v=>v|_=>.none))) s') E' s')
  (hcell:∀ x∈scope.names,x.2≠.cell:=by decide) (hco:scope.isCoroutine=false:=by rfl) (hgen:scope.isGenerator=false:=by rfl) (hk:scope.kind=.function:=by rfl):codeAny (model PG w) A (.call (.ref f) args) R s:=by
 have hdep:A.depth < recursionLimit:=by have:=hr.d;show A.depth < 1000;exact om0 this
 have hz:=K.size;have X:(HF w).In s.heap:=λa o e=>K.ov _ _ (B.X _ _ e);refine codeAny_call_def (fd:=fnX name qual params body scope [] dV kV doc pm an cdv ct) hdep (X _ _ ho) rfl (B.nolimit _ K.ov) (codeRec_of X hcd) rfl hbind hcell (locs hloc) (λh₁ hns hk₁=>?_) hco hgen hk;exact h _ _ _ ⟨K.grow hk₁ _,hns,K.fresh (Nat.le_refl _),K.freshB (Nat.le_refl _),Nat.ne_of_gt hz.1,Nat.ne_of_gt hz.2⟩
end
local macro_rules |`(tactic| walk_at "J.m")=>`(tactic| first|exact up_hit|with_reducible assumption|(refine up_miss (by decide) ?_;walk_at "J.m")|rfl)
local macro_rules |`(tactic| walk_at "J.S")=>`(tactic| with_reducible assumption)
local macro_rules |`(tactic| walk_at "J.r")=>`(tactic| with_reducible refine (by assumption:∀ (r:_) (s:Shared),_->_) _ _ ?_)
local macro_rules |`(tactic| walk_at "J.e")=>`(tactic| first
 |(guard_target=zg0;first
  |refine r_builtin (by walk_at "J.S") (bi_tab _ (by with_unfolding_all rfl)) ?_
  |refine r_global (by walk_at "J.S") (gl_tab _ (by with_unfolding_all rfl)) ?_
  |refine r_local (by walk_at "J.S") (by walk_at "J.m") ?_
  |refine r_cell (by walk_at "J.S") (by rfl) (by walk_at "J.S") ?_
  |refine r_free (by walk_at "J.S") (by rfl) (by walk_at "J.S") ?_)
 |(guard_target=zg4;first
  |(refine r_int (by walk_at "J.S") ?_;intro _ _ _)
  |(refine r_str (by walk_at "J.S") ?_;intro _ _ _)
  |refine wpAny_Constant_none ?_
  |refine wpAny_Constant_bool ?_)
 |(guard_target=zg5;refine wpAny_Compare1 ?_)
 |(guard_target=zg13;refine Attribute_any_ ?_)
 |with_reducible first
  |refine r_callName ?_
  |refine Subscript_ ?_
  |refine wpAny_BinOp ?_
  |refine wpAny_UnaryOp ?_
  |refine wpAny_IfExp ?_
  |refine wpAny_Slice ?_
  |refine r_list ?_
  |refine r_tuple ?_
  |refine wpAny_NamedExpr ?_
  |refine r_callSub ?_)
local macro_rules |`(tactic| walk_at "J.x")=>`(tactic| with_reducible first
 |refine x_assign ?_
 |refine x_setAttr ?_
 |refine x_setItem ?_
 |refine x_assignTo ?_
 |refine x_assign2 ?_
 |refine x_augAttr ?_
 |refine x_continue ?_
 |refine x_while ?_
 |refine x_del ?_
 |refine x_break ?_
 |refine x_ret ?_
 |refine x_expr ?_
 |refine x_if ?_
 |refine x_aug ?_
 |refine x_for ?_
 |refine x_true ?_
 |refine x_false ?_
 |refine x_nil ?_)
local macro_rules |`(tactic| walk_at "K")=>`(tactic| first
 |(guard_target=zg48;walk_at "J.e")
 |with_reducible refine r_trees0 ?_
 |with_reducible refine r_trees ?_
 |(guard_target=zg51;first
  |(with_reducible first
   |refine r_cwBuiltin ?_
   |refine r_cwBuiltin0 ?_
   |refine r_cwType ?_
   |refine r_cwType0 ?_)
  |(guard_target=zg36;refine r_cwDef (fn_tab _ (by decide)) ?_)
  |(guard_target=zg37;refine r_cwDef0 (by walk_at "J.S") (fn_tab _ (by decide)) ?_))
 |(guard_target=zg52;walk_at "J.x")
 |with_reducible refine a_name ?_
 |(guard_target=zg54;refine r_localN (by walk_at "J.S") (by walk_at "J.m") ?_)
 |(guard_target=zg55;refine r_store (by walk_at "J.S") ?_;intro _ _)
 |(guard_target=zg41;first
  |(guard_target=zg38;refine wpAny_isTrue_Compare1 ?_)
  |with_reducible refine wpAny_isTrue_BoolOp ?_
  |with_reducible refine wpAny_isTrue_Not ?_
  |refine wpAny_isTrue_value ?_)
 |(guard_target=zg47;first|refine wpAny_evalPart_none ?_|refine wpAny_evalPart_some ?_)
 |(guard_target=zg60;refine ⟨St.In (by walk_at "J.S"),?_⟩)
 |with_reducible first
  |refine wpAny_truthy_bool ?_
  |refine wpAny_allTrue_And_cons ?_
  |refine wpAny_allTrue_Or_cons ?_
  |refine wpAny_allTrue_And_nil ?_
  |refine wpAny_allTrue_Or_nil ?_
  |refine bindName_ ?_
  |refine a_sub ?_
  |refine ai_cons ?_
  |refine ai_nil ?_
  |refine λ(_:_->Shared->Prop) _=>?_
 |walk_at "J.r"
 |(dsimp only;walk_at "J.r"))
local macro_rules |`(tactic| walk_at "J")=>`(tactic| repeat (walk_at "K"))
theorem kind_issubN:builtinKind "issubclass.nested"=none:=by decide +kernel
theorem plain_issubN:plainId "issubclass.nested"=true:=by decide +kernel
section
variable {prog:Program} {w:World} {A:Around} {s:Shared} {E:Value->Shared->Prop}
theorem sub_str_strN {Q:Fin->Shared->Prop} {dep:Int} {tk:Tok} (hq:Q (.done (.ret (.bool true))) s) :
  wpAny (model prog w) A (Builtin.«issubclass.nested» ⟨[.type "str",.type "str",.int dep tk],[]⟩) Q E s:=by
 have hm:typeOf (.type "str")=pure (.type "type"):=meta_str;have hs:isSubtype (.type "str") (.type "str")=pure true:=by rw [isSubtype_type];kernel_rfl
 repeat (any_goals (first|assumption|(rw [if_pos hm])|(rw [hs])|wp_step))
theorem sub_str_tup {Q:Fin->Shared->Prop} {t:Addr} {o:Obj} {n:Nat} (ho:s.heap.get? t=some o) (hc:o.cls=.type "tuple") (hd:o.data=.seq #[.type "str",.type "bytes"] n) (hq:Q (.done (.ret (.bool true))) s) :
  wpAny (model prog w) A (Builtin.«issubclass.nested» ⟨[.type "str",.ref t,rawInt 0],[]⟩) Q E s:=by
 have hT:s.TypeIs (.ref t) "tuple":=⟨o,ho,hc⟩;have hi:isSubtype (.type "tuple") (.type "tuple")=pure true:=by rw [isSubtype_type];kernel_rfl
 repeat (any_goals (first|assumption|wp_step))
 simp -iota only [hd];refine wpAny_pure ?_;simp -iota only [Option.getD_some,List.forIn_toArray,List.forIn_cons];refine wpAny_bind (wpAny_bind (wpAny_bind (Calls.call_function_entry kind_issubN plain_issubN F.entry_issubclass_nested (by unfold argsOk;kernel_rfl) (sub_str_strN ⟨_,rfl,?_⟩))));exact wpAny_bind (m:=truthy (.bool true)) (wpAny_pure (wpAny_bind (wpAny_pure (wpAny_pure (wpAny_pure (wpAny_pure hq))))))
theorem c_issub {Q:Value->Shared->Prop} {t:Addr} {o:Obj} {n:Nat} (ho:s.heap.get? t=some o) (hc:o.cls=.type "tuple") (hd:o.data=.seq #[.type "str",.type "bytes"] n) (hq:Q (.bool true) s) :
  wpAny (model prog w) A (call (.builtin "issubclass") [.type "str",.ref t]) Q E s:=
 call_issubclass (S:=λ_ R s'=>s'=s∧R (.ok (.ret (.bool true))) s) (λ_ _ _ _ _ h=>by
  obtain ⟨rfl,h⟩:=h;exact issubclass_outer (sub_str_tup ho hc hd h)) ⟨rfl,hq⟩
theorem c_type_str {Q:Value->Shared->Prop} {x:Str} {t:Tok} (hq:Q (.type "str") s):wpAny (model prog w) A (call (.type "type") [.str x t]) Q E s:=call_type_of (Tx:="str") rfl (by decide +kernel) hq
end
section
variable {w:World} {B:Bs w} {A:Around} {L:Addr} {m:Str->Option Value} {g:PH} {s:Shared} {env:Env} {E:Value->Shared->Prop}
theorem sp_get_sep {k:Nat} {R:Result->Shared->Prop} {x:Str} {t:Tok} (K:Kp B g s) (hr:Rm A k)
  (h:∀ s' tk,Kp B g s'->R (.ok (.ret (.str (Str.ofString "/") tk))) s'):codeAny (model PG w) A (.call (.ref 228) ⟨[.str x t],[]⟩) R s:=by
 refine call_fn (binds:=[(Str.ofString "path",.str x t)]) K hr (by rfl) (by kernel_rfl) (BindsTo.of_eq rfl) (by rfl) (λL s E S=>?_);walk_at "J";refine IsiPair.str_bytes ?_;walk_at "J";refine x_ret (r_str (S.toks _) λs' tk S'=>?_);walk_at "J";exact h _ _ S'.kp
theorem sp_fspath {k:Nat} {R:Result->Shared->Prop} {x:Str} {t:Tok} (K:Kp B g s) (hr:Rm A k)
  (h:∀ s',Kp B g s'->R (.ok (.ret (.str x t))) s'):codeAny (model PG w) A (.call (.ref 214) ⟨[.str x t],[]⟩) R s:=by
 refine call_fn (binds:=[(Str.ofString "path",.str x t)]) K hr (by rfl) (by kernel_rfl) (BindsTo.of_eq rfl) (by rfl) (λL s E S=>?_);walk_at "J";refine c_type_str ?_;walk_at "J";refine wpAny_Tuple ?_;walk_at "J";refine ⟨by decide,?_⟩;walk_at "J";refine c_issub (Heap.get?_push_size _ rfl) rfl rfl ?_;walk_at "J";refine x_ret (r_local (St.push (by assumption) _ _) (by walk_at "J.m") ?_);walk_at "J";exact h _ (St.push (by assumption) _ _).kp
theorem c_fspath {k:Nat} {Q:Value->Shared->Prop} {x:Str} {t:Tok} (S:St B L m g s) (hr:Rm A k) (h:∀ s',St B L m g s'->Q (.str x t) s'):wpAny (model PG w) A (call (.ref 214) [.str x t]) Q E s:=by
 refine S.call λr K back=>?_;exact r_defCall (sp_fspath K hr λs' K'=>h _ (back _ _ K'))
theorem c_get_sep {k:Nat} {Q:Value->Shared->Prop} {x:Str} {t:Tok} (S:St B L m g s) (hr:Rm A k) (h:∀ s' tk,St B L m g s'->Q (.str (Str.ofString "/") tk) s'):wpAny (model PG w) A (call (.ref 228) [.str x t]) Q E s:=by
 refine S.call λr K back=>?_;exact r_defCall (sp_get_sep K hr λs' tk K'=>h _ _ (back _ _ K'))
theorem o_rfind {Q:Value->Shared->Prop} {x y:Str} {t u:Tok} (S:St B L m g s) (h:∀ s' tk,St B L m g s'->Q (.int (Txt.rfind x y) tk) s'):wpAny (model PG w) A (call (.builtin "str.rfind") [.str x t,.str y u]) Q E s:=SC.rfind (h _ _ (S.toks _))
theorem o_rstrip {Q:Value->Shared->Prop} {x y:Str} {t u:Tok} (S:St B L m g s) (hx:x.length≤sizeLine) (h:∀ s' tk,St B L m g s'->Q (.str (Txt.rstripChars x y) tk) s'):wpAny (model PG w) A (call (.builtin "str.rstrip") [.str x t,.str y u]) Q E s:=SC.rstripChars (λ_ _=>h _ _ (S.toks _)) hx
theorem o_addI {Q:Value->Shared->Prop} {a b:Int} {t u:Tok} (S:St B L m g s) (h:∀ s' tk,St B L m g s'->Q (.int (a + b) tk) s'):wpAny (model PG w) A (binaryOp .Add (.int a t) (.int b u)) Q E s:=add_int (h _ _ (S.toks _))
theorem o_modI {Q:Value->Shared->Prop} {a b:Int} {t u:Tok} (S:St B L m g s) (hb:b≠0) (h:∀ s' tk,St B L m g s'->Q (.int (a.fmod b) tk) s'):wpAny (model PG w) A (binaryOp .Mod (.int a t) (.int b u)) Q E s:=mod_int' hb (h _ _ (S.toks _))
theorem o_divI {Q:Value->Shared->Prop} {a b:Int} {t u:Tok} (S:St B L m g s) (hb:b≠0) (hp:Builtin.divisionGoesByPylong a b=false) (h:∀ s' tk,St B L m g s'->Q (.int (a.fdiv b) tk) s'):wpAny (model PG w) A (binaryOp .FloorDiv (.int a t) (.int b u)) Q E s:=floordiv_int hb (h _ _ (S.toks _)) (.inl hp)
theorem o_addS {Q:Value->Shared->Prop} {a b:Str} {t u:Tok} (S:St B L m g s) (hl:a.length + b.length≤sizeLine) (h:∀ s' tk,St B L m g s'->Q (.str (a ++ b) tk) s'):wpAny (model PG w) A (binaryOp .Add (.str a t) (.str b u)) Q E s:=add_str (λ_ _=>h _ _ (S.toks _)) hl
theorem o_mulS {Q:Value->Shared->Prop} {x:Str} {n:Int} {t u:Tok} (S:St B L m g s) (hl:MulOk x n) (h:∀ s' tk,St B L m g s'->Q (.str (Txt.mul x n) tk) s'):wpAny (model PG w) A (binaryOp .Mult (.str x t) (.int n u)) Q E s:=SB.mul hl (λ_ _=>h _ _ (S.toks _))
theorem t_slice_sn {value sl:Expr} {Q:Value->Shared->Prop} {x:Str} {t:Tok} {i:Int} {ui:Tok} (S:St B L m g s) (hx:x.length≤sizeLine) (h:∀ s' tk,St B L m g s'->Q (.str (Txt.slice x (some i) none) tk) s')
  (hs:subscripted sl false (.str x t) (.ref s.heap.objs.size)=operate [.str x t,.ref s.heap.objs.size] (getItem (.str x t) (.ref s.heap.objs.size)):=by with_unfolding_all rfl) (ht:(λr=>letTemporaryGo value (.str x t) r)=λr=>pure ():=by rfl) :
  wpAny (model PG w) A (subscriptTail value sl (.str x t) (.ref s.heap.objs.size)) Q E { s with heap:=s.heap.push { cls:=.type "slice",data:=.fields #[.int i ui,.none,.none] } }:=
 tail_of_ItemOn (SBG.sliceItem_sn St.kept S h hx) hs (congrFun ht)
theorem t_slice_ns {value sl:Expr} {Q:Value->Shared->Prop} {x:Str} {t:Tok} {i:Int} {ui:Tok} (S:St B L m g s) (hx:x.length≤sizeLine) (h:∀ s' tk,St B L m g s'->Q (.str (Txt.slice x none (some i)) tk) s')
  (hs:subscripted sl false (.str x t) (.ref s.heap.objs.size)=operate [.str x t,.ref s.heap.objs.size] (getItem (.str x t) (.ref s.heap.objs.size)):=by with_unfolding_all rfl) (ht:(λr=>letTemporaryGo value (.str x t) r)=λr=>pure ():=by rfl) :
  wpAny (model PG w) A (subscriptTail value sl (.str x t) (.ref s.heap.objs.size)) Q E { s with heap:=s.heap.push { cls:=.type "slice",data:=.fields #[.none,.int i ui,.none] } }:=
 tail_of_ItemOn (SBG.sliceItem_ns St.kept S h hx) hs (congrFun ht)
noncomputable def bnF (x:Str):Str:=Txt.slice x (some (Txt.rfind x (Str.ofString "/") + 1)) none
theorem sp_basename {k:Nat} {R:Result->Shared->Prop} {x:Str} {t:Tok} (K:Kp B g s) (hr:Rm A (k + 1)) (hx:x.length≤sizeLine)
  (h:∀ s' tk,Kp B g s'->R (.ok (.ret (.str (bnF x) tk))) s'):codeAny (model PG w) A (.call (.ref 242) ⟨[.str x t],[]⟩) R s:=by
 refine call_fn (binds:=[(Str.ofString "p",.str x t)]) K hr (by rfl) (by kernel_rfl) (BindsTo.of_eq rfl) (by rfl) (λL s E S=>?_);walk_at "J";refine c_fspath S hr.deeper λs S=>?_;walk_at "J";refine c_get_sep ‹_› hr.deeper λs tk S=>?_;walk_at "J";refine r_strMeth F.slot_str_rfind F.type_str_rfind ?_;walk_at "J";refine ⟨_,_,rfl,?_⟩;walk_at "J";refine o_rfind ‹_› λs tk S=>?_;walk_at "J";refine o_addI ‹_› λs tk S=>?_;walk_at "J";exact t_slice_sn ‹_› hx λs tk S=>h _ _ S.kp
end
section
variable {w:World} {B:Bs w} {A:Around} {L:Addr} {m:Str->Option Value} {g:PH} {s:Shared} {env:Env} {E:Value->Shared->Prop}
structure Away (B:Bs w) (L:Addr) (g:PH) (wr:List Addr) (h:Heap):Prop where
 base:∀ b∈wr,B.base b=none
 g:∀ b∈wr,g b=none
 L:∀ b∈wr,b≠L
 t1:∀ b∈wr,b≠321
 t2:∀ b∈wr,b≠293
 is:∀ b∈wr,∃ o,h.get? b=some o
theorem Away.mono {wr hd:List Addr} {h:Heap} (a:Away B L g hd h) (hw:∀ b∈wr,b∈hd):Away B L g wr h:=
 ⟨λb hb=>a.base b (hw b hb),λb hb=>a.g b (hw b hb),λb hb=>a.L b (hw b hb),λb hb=>a.t1 b (hw b hb),λb hb=>a.t2 b (hw b hb),λb hb=>a.is b (hw b hb)⟩
theorem Kp.moved (K:Kp B g s) {wr:List Addr} {h':Heap} (a:Away B L g wr s.heap) (hk:∀ b o,b∉wr->s.heap.get? b=some o->h'.get? b=some o) (tk:Nat):Kp B g { s with heap:=h',toks:=tk }:=by
 have code:∀ b x,CD x->g b=some x->g b=some x:=λ_ _ _ e=>e
 refine ⟨λb o e=>(K.ov _ _ e).of λo' e'=>hk _ _ (λhb=>?_) e',λb o e=>hk _ _ (λhb=>?_) (K.sub _ _ e),K.dis,K.gens,K.os,
  K.t1.mono (λo e=>hk _ _ (λhb=>a.t1 _ hb rfl) e) code,K.t2.mono (λo e=>hk _ _ (λhb=>a.t2 _ hb rfl) e) code,K.h1,K.h2⟩
 ·rw [a.base b hb] at e;cases e
 ·rw [a.g b hb] at e;cases e
theorem St.moved (S:St B L m g s) {wr:List Addr} {h':Heap} (a:Away B L g wr s.heap) (hk:∀ b o,b∉wr->s.heap.get? b=some o->h'.get? b=some o) (tk:Nat):St B L m g { s with heap:=h',toks:=tk }:=
 ⟨S.kp.moved a hk tk,by
  obtain ⟨o,es,ep,e,r⟩:=S.ns;exact ⟨o,es,ep,hk _ _ (λhb=>a.L _ hb rfl) e,r⟩,S.off,S.offb,S.o1,S.o2⟩
open Classical in
noncomputable def snap (wr:List Addr) (h:Heap):PB:=λb=>if b∈wr then (h.get? b).map .ex else none
theorem snap_in {wr:List Addr} {h:Heap} {b:Addr} (hb:b∈wr):snap wr h b=(h.get? b).map .ex:=if_pos hb
theorem snap_out {wr:List Addr} {h:Heap} {b:Addr} (hb:b∉wr):snap wr h b=none:=if_neg hb
theorem snap_some {wr:List Addr} {h:Heap} {b:Addr} {o:BO} (e:snap wr h b=some o):b∈wr∧o.ok (h.get? b):=by
 by_cases hb:b∈wr
 ·rw [snap_in hb] at e;cases q:h.get? b with
  |none=>rw [q] at e;cases e
  |some o'=>rw [q] at e;cases e;exact ⟨hb,rfl⟩
 ·rw [snap_out hb] at e;cases e
theorem St.hold (S:St B L m g s) {wr:List Addr} (a:Away B L g wr s.heap):∃ B':Bs w,And4 ((∀ b o,B.base b=some o->B'.base b=some o)) ((∀ b∈wr,B'.base b=(s.heap.get? b).map .ex)) (St B' L m g s) (∀ m' g' s',St B' L m' g' s'->St B L m' g' s'∧Away B L g' wr s'.heap∧∀ b∈wr,s'.heap.get? b=s.heap.get? b):=by
 have h1:snap wr s.heap 321=none:=snap_out λh=>a.t1 _ h rfl;have h2:snap wr s.heap 293=none:=snap_out λh=>a.t2 _ h rfl
 have hw:∀ b∈wr,(B.ext (snap wr s.heap) h1 h2).base b=(s.heap.get? b).map .ex:=λb hb=>by
  show extB _ _ _=_;rw [extB_new (a.base b hb)];exact snap_in hb
 refine ⟨B.ext (snap wr s.heap) h1 h2,λb o e=>extB_of e,hw,⟨S.kp.ext _ _ λb o e=>⟨(snap_some e).2,a.g _ (snap_some e).1⟩,S.ns,S.off,?_,S.o1,S.o2⟩,λm' g' s' S'=>?_⟩
 ·show extB _ _ _=_;rw [extB_new S.offb];exact snap_out λh=>a.L _ h rfl
 ·have same:∀ b∈wr,s'.heap.get? b=s.heap.get? b:=λb hb=>by
   obtain ⟨o,ho⟩:=a.is b hb;rw [ho];exact S'.ov b (.ex o) ((hw b hb).trans (by rw [ho];rfl))
  refine ⟨⟨S'.kp.unext,S'.ns,S'.off,S.offb,S'.o1,S'.o2⟩,⟨a.base,λb hb=>?_,a.L,a.t1,a.t2,λb hb=>?_⟩,same⟩
  ·cases q:g' b with
   |none=>rfl
   |some x=>
    obtain ⟨o,ho⟩:=a.is b hb;have:=S'.kp.dis _ _ q;rw [hw b hb,ho] at this;cases this
  ·rw [same b hb];exact a.is b hb
noncomputable def TurnEnd (B:Bs w) (L:Addr) (I:(Str->Option Value)->PH->Prop) (D:Option Value->(Str->Option Value)->PH->Prop) (f:Flow) (s:Shared):Prop:=
 Ex2 λm g=>St B L m g s∧match f with|.next=>I m g|.cont=>I m g|.brk=>D none m g|.ret v=>D (some v) m g
end
noncomputable def OL (vs:List Value) (o:Obj):Prop:=∃ n,o=listOf vs.toArray n
noncomputable def OD (w:World) (kvs:List (Str×Value)) (o:Obj):Prop:=o.ExactDict∧Ex2 λes ep=>And4 (o.data=.dict es ep) (KeysOf (strKind PG w) es) (Pairs (strKind PG w) es.toList kvs) ((kvs.map (·.1)).Nodup)
noncomputable def OT (vs:List Value) (o:Obj):Prop:=o.cls=.type "tuple"∧∃ n,o.data=.seq vs.toArray n
section
variable {w:World} {B:Bs w} {A:Around} {L:Addr} {m:Str->Option Value} {g:PH} {s:Shared} {env:Env} {E:Value->Shared->Prop}
theorem sysNe {a:Addr} {o:Obj} (S:St B L m g s) (h:g a=some o):(a == sysModules)=false:=by
 obtain ⟨x,hx⟩:=B.sm;refine beq_eq_false_iff_ne.mpr ?_;rintro rfl;rw [S.kp.dis _ _ h] at hx;cases hx
theorem OL.cls {vs:List Value} {o:Obj} (h:OL vs o):o.cls=.type "list":=by obtain ⟨n,rfl⟩:=h;rfl
theorem OL.code {vs:List Value} {o:Obj} (h:OL vs o):¬ CD o:=by obtain ⟨n,rfl⟩:=h;rintro ⟨vs,e⟩;cases e
theorem OL.isList {vs:List Value} {o:Obj} {h:Heap} {l:Addr} (x:OL vs o) (e:h.get? l=some o):h.IsList l vs.toArray:=by obtain ⟨n,rfl⟩:=x;exact ⟨_,e,rfl,n,rfl⟩
theorem OL.typeIs {vs:List Value} {o:Obj} {l:Addr} (x:OL vs o) (e:s.heap.get? l=some o):s.TypeIs (.ref l) "list":=by obtain ⟨n,rfl⟩:=x;exact ⟨_,e,rfl⟩
theorem OD.code {kvs:List (Str×Value)} {o:Obj} (h:OD w kvs o):¬ CD o:=by obtain ⟨_,es,ep,e,_⟩:=h;rintro ⟨vs,e'⟩;rw [e] at e';cases e'
theorem OD.dictOf {kvs:List (Str×Value)} {o:Obj} {h:Heap} {d:Addr} (x:OD w kvs o) (e:h.get? d=some o):h.DictOf (strKind PG w) d kvs:=by
 obtain ⟨a,es,ep,r,r2,r3,r4⟩:=x;exact ⟨o,es,ep,e,a,r,r2,r3,r4⟩
theorem OD.of {kvs:List (Str×Value)} {h:Heap} {d:Addr} (x:h.DictOf (strKind PG w) d kvs):∃ o,h.get? d=some o∧OD w kvs o:=by
 obtain ⟨o,es,ep,e,a,r,r2,r3,r4⟩:=x;exact ⟨o,e,a,es,ep,r,r2,r3,r4⟩
theorem o_append {l:Addr} {vs:List Value} {o:Obj} {v:Value} {Q:Value->Shared->Prop} (S:St B L m g s) (hl:g l=some o) (x:OL vs o) (hz:vs.length≤sizeLine)
  (h:∀ s' o',OL (vs ++ [v]) o'->St B L m (put g l o') s'->Q .none s'):wpAny (model PG w) A (call (.builtin "list.append") [.ref l,v]) Q E s:=by
 have xc:=x.code;obtain ⟨n,rfl⟩:=x;refine append_at (S.sub hl) (λh' hs ho=>?_) (by rw [List.size_toArray];exact hz);exact h _ _ ⟨n + 1,by simp⟩ (S.set hl xc hs ho s.toks)
theorem o_pop {l:Addr} {vs:List Value} {o:Obj} {v:Value} {Q:Value->Shared->Prop} (S:St B L m g s) (hl:g l=some o) (x:OL (vs ++ [v]) o) (hz:vs.length + 1≤sizeLine)
  (h:∀ s' o',OL vs o'->St B L m (put g l o') s'->Q v s'):wpAny (model PG w) A (call (.builtin "list.pop") [.ref l]) Q E s:=by
 have xc:=x.code;obtain ⟨n,rfl⟩:=x;refine Copied.pop_at (S.sub hl) (y:=v) (by simp) (λh' hs ho=>?_) (by simpa using hz);exact h _ _ ⟨n + 1,by simp⟩ (S.set hl xc hs ho s.toks)
theorem o_insert {l:Addr} {vs:List Value} {o:Obj} {k:Int} {t:Tok} {v:Value} {Q:Value->Shared->Prop} (S:St B L m g s) (hl:g l=some o) (x:OL vs o) (hz:vs.length≤sizeLine) (h0:0≤k) (hk:k≤vs.length)
  (h:∀ s' o',OL (vs.take k.toNat ++ v :: vs.drop k.toNat) o'->St B L m (put g l o') s'->Q .none s'):wpAny (model PG w) A (call (.builtin "list.insert") [.ref l,.int k t,v]) Q E s:=by
 have xc:=x.code;obtain ⟨n,rfl⟩:=x;have hz':vs.length≤2 ^ 24:=hz;have hf:Builtin.List.listFitsIndex k=true:=by unfold Builtin.List.listFitsIndex;simp;exact om46 h0 hk hz'
 refine call_meets PySem.F.slot_list_insert ⟨_,S.sub hl,rfl⟩ PySem.F.entry_list_insert (PySem.F.args_list_insert_3 _ _ _) (PySem.AutoSeq1.list_insert_list_int_val_1 l _ n k t v (by simp [hf]) (by rw [List.size_toArray];exact hz)) ⟨S.sub hl,?_⟩;have hm:min k.toNat vs.length=k.toNat:=by exact om47 hk hz'
 have e:((vs.toArray.extract 0 (if k < 0 then (k + (vs.toArray.size:Int)).toNat else min k.toNat vs.toArray.size)).push v ++ vs.toArray.extract (if k < 0 then (k + (vs.toArray.size:Int)).toNat else min k.toNat vs.toArray.size))=(vs.take k.toNat ++ v :: vs.drop k.toNat).toArray:=by
  have hm':min k.toNat vs.toArray.size=k.toNat:=by rw [List.size_toArray];exact hm
  rw [if_neg (by exact om48 h0),hm'];exact kl_ins_eq _ _ _
 have ho:=PySem.IsL.update (S.sub hl) (λxs=>have k:=if k < 0 then (k + (xs.size:Int)).toNat else min k.toNat xs.size;(xs.extract 0 k).push v ++ xs.extract k);exact h _ _ ⟨_,rfl⟩ (S.set hl xc (Heap.SameBut.update ..) (ho.trans (by dsimp only;rw [e])) s.toks)
theorem o_clear {l:Addr} {vs:List Value} {o:Obj} {Q:Value->Shared->Prop} (S:St B L m g s) (hl:g l=some o) (x:OL vs o) (hz:vs.length≤sizeLine)
  (h:∀ s' o',OL [] o'->St B L m (put g l o') s'->Q .none s'):wpAny (model PG w) A (call (.builtin "list.clear") [.ref l]) Q E s:=by
 have xc:=x.code;obtain ⟨n,rfl⟩:=x;refine call_meets PySem.F.slot_list_clear ⟨_,S.sub hl,rfl⟩ PySem.F.entry_list_clear (PySem.F.args_list_clear_1 _) (PySem.AutoSeq1.list_clear_list_0 l _ n (by rw [List.size_toArray];exact hz)) ⟨S.sub hl,?_⟩;exact h _ _ ⟨_,rfl⟩ (S.set hl xc (Heap.SameBut.update ..) (PySem.IsL.update (S.sub hl) (λ_=>#[])) s.toks)
theorem t_item {value sl:Expr} {l:Addr} {vs:List Value} {k:Int} {t:Tok} {v:Value} {Q:Value->Shared->Prop} (hl:s.heap.IsList l vs.toArray) (h0:0≤k) (h1:k < 2 ^ 63) (hx:vs[k.toNat]?=some v) (h:Q v s)
  (hs:subscripted sl false (.ref l) (.int k t)=operate [.ref l,.int k t] (getItem (.ref l) (.int k t)):=by with_unfolding_all rfl) :
  wpAny (model PG w) A (subscriptTail value sl (.ref l) (.int k t)) Q E s:=
 tail_any hl.typeIs slot_list_getitem.lookup (wpAny_getItem_list hl h0 h1 (by simpa using hx) h) hs
theorem t_itemNeg {value sl:Expr} {l:Addr} {vs:List Value} {k:Int} {t:Tok} {v:Value} {Q:Value->Shared->Prop} (hl:s.heap.IsList l vs.toArray) (h0:k < 0) (h1:-(vs.length:Int)≤k) (h2:-2 ^ 63≤k) (hx:vs[(k + vs.length).toNat]?=some v) (h:Q v s)
  (hs:subscripted sl false (.ref l) (.int k t)=operate [.ref l,.int k t] (getItem (.ref l) (.int k t)):=by with_unfolding_all rfl) :
  wpAny (model PG w) A (subscriptTail value sl (.ref l) (.int k t)) Q E s:=
 tail_any hl.typeIs slot_list_getitem.lookup (wpAny_getItem_list_neg hl h0 (by simpa using h1) h2 (by simpa using hx) h) hs
theorem isStr_is (x:Str) (t:Tok):(strKind PG w).is x (.str x t)=true:=strKind_is PG w x t
theorem t_dict {value sl:Expr} {d:Addr} {kvs:List (Str×Value)} {x:Str} {t:Tok} {v:Value} {Q:Value->Shared->Prop} (S:St B L m g s) (hd:s.heap.DictOf (strKind PG w) d kvs) (hv:valueAt kvs x=some v) (h:∀ s',St B L m g s'->Q v s')
  (hs:subscripted sl false (.ref d) (.str x t)=operate [.ref d,.str x t] (getItem (.ref d) (.str x t)):=by with_unfolding_all rfl) :
  wpAny (model PG w) A (subscriptTail value sl (.ref d) (.str x t)) Q E s:=
 tail_any hd.mapOf.typeIs slot_dict_getitem.lookup (wpAny_getItem_of (isStr_is x t) hd.mapOf hv (h _ (S.toks _))) hs
theorem o_setD {d:Addr} {kvs:List (Str×Value)} {x:Str} {t:Tok} {v:Value} {o:Obj} {Q:Unit->Shared->Prop} (S:St B L m g s) (hd:g d=some o) (x':OD w kvs o) (hz:kvs.length≤sizeLine)
  (h:∀ s' o',OD w (stored kvs x v) o'->St B L m (put g d o') s'->Q () s'):wpAny (model PG w) A (setItem (.ref d) (.str x t) v) Q E s:=by
 refine wpAny_setItem_pairs (isStr_is x t) (x'.dictOf (S.sub hd)) (λh' hd' hs=>?_) hz;obtain ⟨o',ho',x''⟩:=OD.of hd';exact h _ _ x'' (S.set hd x'.code hs ho' _)
theorem o_inD {d:Addr} {kvs:List (Str×Value)} {x:Str} {t:Tok} {Q:Value->Shared->Prop} (S:St B L m g s) (hsys:(d == sysModules)=false) (hd:s.heap.DictOf (strKind PG w) d kvs) (h:∀ s',St B L m g s'->Q (.bool (valueAt kvs x).isSome) s') :
  wpAny (model PG w) A (compareOp .In (.str x t) (.ref d)) Q E s:=wpAny_in_of (isStr_is x t) hsys hd.mapOf (h _ (S.toks _))
theorem o_get1 {d:Addr} {kvs:List (Str×Value)} {x:Str} {t:Tok} {Q:Value->Shared->Prop} (S:St B L m g s) (hsys:(d == sysModules)=false) (hd:s.heap.DictOf (strKind PG w) d kvs) (h:∀ s',St B L m g s'->Q ((valueAt kvs x).getD .none) s') :
  wpAny (model PG w) A (call (.builtin "dict.get") [.ref d,.str x t]) Q E s:=
 call_meetsIn F.slot_dict_get hd.mapOf.typeIs F.entry_dict_get (F.args_dict_get_2 _ _) (meets_dict_get (strKind PG w) d (isStr_is x t) hsys) ⟨_,hd.mapOf,h _ (S.toks _)⟩
theorem o_get2 {d:Addr} {kvs:List (Str×Value)} {x:Str} {t:Tok} {v:Value} {Q:Value->Shared->Prop} (S:St B L m g s) (hsys:(d == sysModules)=false) (hd:s.heap.DictOf (strKind PG w) d kvs) (h:∀ s',St B L m g s'->Q ((valueAt kvs x).getD v) s') :
  wpAny (model PG w) A (call (.builtin "dict.get") [.ref d,.str x t,v]) Q E s:=
 call_meetsIn F.slot_dict_get hd.mapOf.typeIs F.entry_dict_get (F.args_dict_get_3 _ _ _) (meets_dict_get_default (strKind PG w) d (isStr_is x t) hsys v) ⟨_,hd.mapOf,h _ (S.toks _)⟩
end
section
variable {w:World} {B:Bs w} {A:Around} {L:Addr} {m m':Str->Option Value} {g:PH} {s:Shared} {env:Env} {E:Value->Shared->Prop}
theorem St.out (S:St B L m g s) {h':Heap} (hk:∀ b o,b≠L->s.heap.get? b=some o->h'.get? b=some o) (hn:h'.Ns L m') (tk:Nat):St B L m' g { s with heap:=h',toks:=tk }:=by
 have code:∀ b x,CD x->g b=some x->g b=some x:=λ_ _ _ e=>e
 exact ⟨⟨λb o e=>(S.ov _ _ e).of λo' e'=>hk _ _ (by rintro rfl;rw [S.offb] at e;cases e) e',λb o e=>hk _ _ (by rintro rfl;rw [S.off] at e;cases e) (S.kp.sub _ _ e),S.kp.dis,S.kp.gens,S.kp.os,
  S.kp.t1.mono (λ_ e=>hk _ _ S.o1.symm e) code,S.kp.t2.mono (λ_ e=>hk _ _ S.o2.symm e) code,S.kp.h1,S.kp.h2⟩,hn,S.off,S.offb,S.o1,S.o2⟩
theorem St.out1 (S:St B L m g s) {a:Addr} {o o':Obj} {h':Heap} (ha:g a=some o) (hc:¬ CD o) (hk:∀ b o,b≠L->b≠a->s.heap.get? b=some o->h'.get? b=some o) (ho:h'.get? a=some o') (hn:h'.Ns L m') (tk:Nat) :
  St B L m' (put g a o') { s with heap:=h',toks:=tk }:=by
 have hL:=S.ne ha;have n1:(321:Addr)≠a:=by rintro rfl;rw [S.kp.h1] at ha;cases ha
 have n2:(293:Addr)≠a:=by rintro rfl;rw [S.kp.h2] at ha;cases ha
 have code:∀ b x,CD x->g b=some x->put g a o' b=some x:=λb x hx e=>by
  refine (put_ne ?_).trans e;rintro rfl;rw [ha] at e;cases e;exact absurd hx hc
 refine ⟨⟨λb o e=>(S.ov _ _ e).of λo' e'=>hk _ _ ?_ ?_ e',λb x e=>?_,λb x e=>?_,S.kp.gens,S.kp.os,S.kp.t1.mono (λ_ e=>hk _ _ S.o1.symm n1 e) code,S.kp.t2.mono (λ_ e=>hk _ _ S.o2.symm n2 e) code,(put_ne n1).trans S.kp.h1,(put_ne n2).trans S.kp.h2⟩,hn,(put_ne hL).trans S.off,S.offb,S.o1,S.o2⟩
 ·rintro rfl;rw [S.offb] at e;cases e
 ·rintro rfl;rw [S.kp.dis _ _ ha] at e;cases e
 ·by_cases hba:b=a
  ·subst hba;rw [put_self] at e;cases e;exact ho
  ·rw [put_ne hba] at e;exact hk _ _ (by rintro rfl;rw [S.off] at e;cases e) hba (S.kp.sub _ _ e)
 ·by_cases hba:b=a
  ·subst hba;exact S.kp.dis _ _ ha
  ·rw [put_ne hba] at e;exact S.kp.dis _ _ e
theorem St.take (S:St B L m g s) {a:Addr} {o:Obj} (ho:s.heap.get? a=some o) (hb:B.base a=none) (hL:a≠L) (h1:a≠321) (h2:a≠293):St B L m (put g a o) s:=
 ⟨S.kp.new ho hb h1 h2,S.ns,(put_ne hL.symm).trans S.off,S.offb,S.o1,S.o2⟩
theorem St.takeNew (S:St B L m g s) {h₁:Heap} {a:Addr} {o:Obj} (S₀:St B L m' g { s with heap:=h₁ }) (ha:h₁.objs.size≤a) (ho:s.heap.get? a=some o):St B L m (put g a o) s:=by
 have hz:=S₀.kp.size;have z1:321 < h₁.objs.size:=hz.1;have z2:293 < h₁.objs.size:=hz.2;refine S.take ho (none_of_size S₀.ov ha) (Nat.ne_of_gt (Nat.lt_of_lt_of_le S₀.ns.lt ha)) (Nat.ne_of_gt (Nat.lt_of_lt_of_le z1 ha)) (Nat.ne_of_gt (Nat.lt_of_lt_of_le z2 ha))
noncomputable def noHeap:Heap:={}
theorem no_get (b:Addr):noHeap.get? b=none:=by simp [noHeap,Heap.get?]
theorem St.fr (S:St B L m g s):Fr noHeap L s.heap m:=⟨S.ns,(λb o e=>by rw [no_get] at e;cases e),Nat.zero_le _⟩
noncomputable def allBut (h:Heap) (xs:List Addr):List (Addr×Obj):=(List.range h.objs.size).filterMap λb=>if xs.contains b then none else (h.get? b).map λo=>(b,o)
theorem mem_allBut {h:Heap} {xs:List Addr} {b:Addr} {o:Obj}:(b,o)∈allBut h xs↔h.get? b=some o∧b∉xs:=by
 unfold allBut;rw [List.mem_filterMap]
 constructor
 ·rintro ⟨c,_,e⟩
  split at e
  ·cases e
  ·rename_i hx
   rw [Option.map_eq_some_iff] at e;obtain ⟨x,hx',e⟩:=e;cases e;exact ⟨hx',by simpa using hx⟩
 ·rintro ⟨e,hx⟩;exact ⟨b,List.mem_range.mpr (Heap.lt_size e),by rw [if_neg (by simpa using hx),e];rfl⟩
theorem St.news (S:St B L m g s) {xs:List Addr} (hL:L∈xs):News noHeap L s.heap (allBut s.heap xs):=λp hp=>by
 obtain ⟨b,o⟩:=p;obtain ⟨e,hx⟩:=mem_allBut.mp hp;exact ⟨e,(λh=>hx (by cases h;exact hL)),no_get _⟩
theorem St.news1 (S:St B L m g s) {a:Addr} {o:Obj} (ha:g a=some o):News noHeap L s.heap (allBut s.heap [L,a] ++ (a,o) :: []):=λp hp=>by
 rcases List.mem_append.mp hp with hp|hp
 ·exact S.news (by simp) p hp
 ·rcases List.mem_cons.mp hp with rfl|hp
  ·exact ⟨S.sub ha,(S.ne ha).symm,no_get _⟩
  ·cases hp
theorem allBut_ne {h:Heap} {L a:Addr}:∀ p∈allBut h [L,a],p.1≠a:=λp hp e=>by
 obtain ⟨b,o⟩:=p;exact (mem_allBut.mp hp).2 (by simp at e;simp [e])
theorem St.ofNews1 (S:St B L m g s) {a:Addr} {o o':Obj} {h':Heap} (ha:g a=some o) (hc:¬ CD o) (F:Fr noHeap L h' m') (N:News noHeap L h' (allBut s.heap [L,a] ++ (a,o') :: [])) (tk:Nat) :
  St B L m' (put g a o') { s with heap:=h',toks:=tk }:=
 S.out1 ha hc (λb x h1 h2 e=>(N (b,x) (List.mem_append_left _ (mem_allBut.mpr ⟨e,by simp [h1,h2]⟩))).1) (N (a,o') (List.mem_append_right _ (.head _))).1 F.ns tk
theorem St.ofNews (S:St B L m g s) {h':Heap} {news:List (Addr×Obj)} (F:Fr noHeap L h' m') (N:News noHeap L h' news) (hsub:∀ p∈allBut s.heap [L],p∈news) (tk:Nat):St B L m' g { s with heap:=h',toks:=tk }:=
 S.out (λb x h1 e=>(N (b,x) (hsub _ (mem_allBut.mpr ⟨e,by simp [h1]⟩))).1) F.ns tk
noncomputable abbrev ins (C dx:Addr) (sl:Array (Option Value)):Obj:=⟨.ref C,some dx,.plain,sl⟩
theorem St.inst (S:St B L m g s) {x C dx:Addr} {sl:Array (Option Value)} {od:Obj} (hx:g x=some (ins C dx sl)) (hd:g dx=some od):InstAt s.heap x (ins C dx sl) C (some od):=
 ⟨S.sub hx,rfl,rfl,S.sub hd⟩
noncomputable def kStr:Value->Option Str
 |.str x _=>some x
 |_=>none
theorem kStr_some {v:Value} {k:Str} (h:kStr v=some k):∃ t,v=.str k t:=by
 cases v with
 |str x t=>cases h;exact ⟨t,rfl⟩
 |_=>cases h
noncomputable def OA (ks:List Str) (mA:Str->Option Value) (o:Obj):Prop:=Ex2 λes n=>And3 (o=dictOf es n) (es.map (λe=>kStr e.key)=ks.map some) (∀ x,getL x es=some (mA x))
theorem OA.code {ks:List Str} {mA:Str->Option Value} {o:Obj} (h:OA ks mA o):¬ CD o:=by obtain ⟨es,n,rfl,_⟩:=h;rintro ⟨vs,e⟩;cases e
theorem OA.look {ks:List Str} {mA:Str->Option Value} {o:Obj} (h:OA ks mA o) (x:Str):lookIn x o=some (mA x):=by obtain ⟨es,n,rfl,_,e⟩:=h;exact e x
theorem OA.nil:OA [] (λ_=>none) (dictOf [] 0):=⟨[],0,rfl,rfl,λ_=>rfl⟩
theorem getL_of_strs (x:Str):∀ {es:List DictEntry} {ks:List Str},es.map (λe=>kStr e.key)=ks.map some->getL x es=some ((es.find? (·.key.isStr x)).map (·.val)):=by
 intro es ks hs;unfold getL;cases h:es.find? (·.key.isStr x) with
 |some e=>rfl
 |none=>
  have:es.any (·.refKey)=false:=by
   rw [List.any_eq_false];intro e he;have:kStr e.key∈ks.map some:=by rw [<-hs];exact List.mem_map.mpr ⟨e,he,rfl⟩
   obtain ⟨k,_,hk⟩:=List.mem_map.mp this;unfold DictEntry.refKey;obtain ⟨t,q⟩:=kStr_some hk.symm;rw [q];simp
  simp [this]
theorem find_putL (x:Str) (hh:Int) (k v:Value) (hk:k.isStr x=true) (y:Str):∀ es:List DictEntry,((putL x hh k v es).find? (·.key.isStr y)).map (·.val)=if y=x then some v else (es.find? (·.key.isStr y)).map (·.val)
 |[]=>by
  by_cases h:y=x
  ·subst h;simp [putL,hk]
  ·have:k.isStr y=false:=by
    cases q:k.isStr y with
    |false=>rfl
    |true=>exact absurd (Value.isStr_inj _ _ _ q hk) h
   simp [putL,this,h]
 |e :: r=>by
  unfold putL;cases h:e.key.isStr x with
  |true=>
   simp only [if_true,List.find?_cons]
   by_cases q:y=x
   ·subst q;simp [h]
   ·have:e.key.isStr y=false:=by
     cases z:e.key.isStr y with
     |false=>rfl
     |true=>exact absurd (Value.isStr_inj _ _ _ z h) q
    simp [this,q]
  |false=>
   simp only [Bool.false_eq_true,if_false,List.find?_cons];cases z:e.key.isStr y with
   |true=>
    have:y≠x:=by rintro rfl;rw [h] at z;cases z
    simp [this]
   |false=>exact find_putL x hh k v hk y r
noncomputable def kadd (ks:List Str) (x:Str):List Str:=if ks.contains x then ks else ks ++ [x]
theorem isStr_kStr {v:Value} {k x:Str} (h:kStr v=some k):v.isStr x=(k == x):=by
 obtain ⟨t,rfl⟩:=kStr_some h
 rfl
theorem keys_putL (x:Str) (hh:Int) (t:Tok) (v:Value):∀ {es:List DictEntry} {ks:List Str},es.map (λe=>kStr e.key)=ks.map some->(putL x hh (.str x t) v es).map (λe=>kStr e.key)=(kadd ks x).map some
 |[],[],_=>rfl
 |[],k :: ks,h=>by cases h
 |e :: r,[],h=>by cases h
 |e :: r,k :: ks,h=>by
  rw [List.map_cons,List.map_cons,List.cons.injEq] at h;unfold putL;rw [isStr_kStr h.1]
  by_cases q:k=x
  ·subst q;simp [kadd,h.1,h.2]
  ·have ih:=keys_putL x hh t v h.2;have hb:(k == x)=false:=by simpa using q
   have hb':(x == k)=false:=by simpa using (Ne.symm q)
   simp only [hb,Bool.false_eq_true,if_false,List.map_cons,h.1,ih];unfold kadd;rw [List.contains_cons,hb',Bool.false_or]
   split <;> simp
theorem len_kadd (ks:List Str) (x:Str):(kadd ks x).length≤ks.length + 1:=by
 unfold kadd;split <;> simp
theorem OA.put {ks:List Str} {mA:Str->Option Value} {es:List DictEntry} {n n':Nat} {x:Str} {hh:Int} {t:Tok} {v:Value} (h:OA ks mA (dictOf es n)):OA (kadd ks x) (up mA x v) (dictOf (putL x hh (.str x t) v es) n'):=by
 obtain ⟨es',n₀,e,hs,hf⟩:=h;have:es=es':=by injection e with _ _ e;injection e with e;simpa using congrArg Array.toList e
 subst this;refine ⟨_,_,rfl,keys_putL _ _ _ _ hs,λy=>?_⟩;rw [getL_of_strs _ (keys_putL _ _ _ _ hs),find_putL x hh (.str x t) v (by simp [Value.isStr]) y];have:=hf y;rw [getL_of_strs _ hs] at this;have:=Option.some.inj this;unfold up
 split
 ·rfl
 ·rw [this]
theorem OA.len {ks:List Str} {mA:Str->Option Value} {es:List DictEntry} {n:Nat} (h:OA ks mA (dictOf es n)):es.length=ks.length:=by
 obtain ⟨es',n₀,e,hs,_⟩:=h;have:es=es':=by injection e with _ _ e;injection e with e;simpa using congrArg Array.toList e
 subst this
 simpa using congrArg List.length hs
theorem i_get {x C dx:Addr} {sl:Array (Option Value)} {od:Obj} {ks:List Str} {mA:Str->Option Value} {name:Str} {v:Value} {attr:Option Value} {ex:Bool} {Q:Value->Shared->Prop} (S:St B L m g s) (hx:g x=some (ins C dx sl)) (hd:g dx=some od) (oa:OA ks mA od)
  (hv:mA name=some v) (hg:plainGet (HF w) C name=true) (hh:hasDictIn (HF w) C=true) (ha:findIn (HF w) (.ref C) name=some attr) (hn:noGet (HF w) attr=true) (hi:handedIn v=true) (h:∀ s',St B L m g s'->Q v s') :
  wpAny (model PG w) A (getAttr (.ref x) name ex) Q E s:=
 get_value S.In (S.inst hx hd) (plainGet_of hg).1 (findObj_own hh ha hn (by rw [oa.look,hv])) hi (h _ (S.toks _))
theorem i_set {x C dx:Addr} {sl:Array (Option Value)} {od:Obj} {ks:List Str} {mA:Str->Option Value} {name:Str} {v:Value} {Q:Unit->Shared->Prop} (S:St B L m g s) (hx:g x=some (ins C dx sl)) (hd:g dx=some od) (oa:OA ks mA od)
  (hz:ks.length < 400)
  (hs:findIn (HF w) (.ref C) "__setattr__"=some (some (.builtin "object.__setattr__"))) (hp:plainOver (HF w) C=true) (ht:takerIn (HF w) C name=some none) (hh:hasDictIn (HF w) C=true)
  (h:∀ s' od',OA (kadd ks name) (up mA name v) od'->St B L m (put g dx od') s'->Q () s') :
  wpAny (model PG w) A (setAttr (.ref x) name v) Q E s:=by
 have oa₀:=oa;have oc:=oa.code;obtain ⟨es,n,rfl,_⟩:=oa;have hz:es.length < 400:=by rw [oa₀.len];exact hz
 have S₁:=S.toks (s.toks + 1);refine set_plain S.In (S.inst hx hd) hs (osa_dict (pre:=allBut s.heap [L,dx]) (post:=[]) (n:=putN name es n) (s:={ s with toks:=s.toks + 1 }) S₁.fr (S₁.news1 hd) S₁.In (S₁.inst hx hd) rfl hp ht (by exact hh) (by rw [oa₀.look];rfl) allBut_ne (λ_ hq=>by cases hq) (by rw [putName_dict]) rfl (by refine n_t (n_e (OA.len (n:=0) oa₀.put)) ?_;have:=len_kadd ks name;rw [oa₀.len] at hz;exact om86 ‹_› this) λh' F' N'=>?_);exact h _ _ oa₀.put (S₁.ofNews1 hd oc F' N' _)
end
section
variable {w:World} {B:Bs w} {A:Around} {L:Addr} {m m':Str->Option Value} {g:PH} {s:Shared} {env:Env} {E:Value->Shared->Prop} {pl:Sem Bool}
theorem gm_inst {name:Str} {x C dx f:Addr} {sl:Array (Option Value)} {od:Obj} {ks:List Str} {mA:Str->Option Value} {Q:Value×List Value->Shared->Prop} (S:St B L m g s) (hx:g x=some (ins C dx sl)) (hd:g dx=some od) (oa:OA ks mA od)
  (hv:mA name=none) (hg:plainGet (HF w) C name=true) (hf:findIn (HF w) (.ref C) name=some (some (.ref f))) (ht:isFn (HF w) (.ref f)=true) (h:Q (.ref f,[.ref x]) s) :
  wpAny (model PG w) A (getMethod (.ref x) name pl) Q E s:=
 method_fn S.In (S.inst hx hd) (plainGet_of hg).1 (plainGet_of hg).2 hf (beq_iff_eq.mp ht) (by show (lookIn name od).map _=_;rw [oa.look,hv];rfl) h
theorem s_get {name:Str} {x C dx p:Addr} {i:Nat} {sl:Array (Option Value)} {od:Obj} {v:Value} {ex:Bool} {Q:Value->Shared->Prop} (S:St B L m g s) (hx:g x=some (ins C dx sl)) (hd:g dx=some od)
  (hv:(sl[i]?).join=some v) (hg:plainGet (HF w) C name=true) (hc:isClsIn (HF w) C=true) (ha:findIn (HF w) (.ref C) name=some (some (.ref p)))
  (hn:specialIn (HF w) (.ref p) "__get__"=some (some (.builtin "member_descriptor.__get__"))) (ht:takesIn (HF w) (.ref p)=some true) (hp:slotIn (HF w) p C=some i) (hh:handedIn v=true) (h:∀ s',St B L m g s'->Q v s') :
  wpAny (model PG w) A (getAttr (.ref x) name ex) Q E s:=
 get_bind S.In (S.inst hx hd) (plainGet_of hg).1 (findObj_data hc ha hn ht) (plainGet_of hg).2 (wpAny_call (slot_get (s:={ s with toks:=s.toks + 1 }) S.In (S.inst hx hd) hp hv (handed_on hh (h _ (S.toks _)))))
theorem s_set {name:Str} {x C dx p:Addr} {i:Nat} {sl sl':Array (Option Value)} {od:Obj} {v:Value} {Q:Unit->Shared->Prop} (S:St B L m g s) (hx:g x=some (ins C dx sl)) (hd:g dx=some od)
  (hs:findIn (HF w) (.ref C) "__setattr__"=some (some (.builtin "object.__setattr__"))) (hp:plainOver (HF w) C=true) (ht:takerIn (HF w) C name=some (some (.ref p))) (hT:typeIn (HF w) (.ref p)=some (.type "member_descriptor"))
  (hi:slotIn (HF w) p C=some i) (hz:i < 1000) (e:(sl ++ Array.replicate (i + 1 - sl.size) none).setIfInBounds i (some v)=sl')
  (h:∀ s',St B L m (put g x (ins C dx sl')) s'->Q () s'):wpAny (model PG w) A (setAttr (.ref x) name v) Q E s:=by
 have S₁:=S.toks (s.toks + 1)
 refine set_plain S.In (S.inst hx hd) hs (osa_descr (s:={ s with toks:=s.toks + 1 }) KF.slot_mset S.In (S.inst hx hd) hp ht hT
  (slot_set (pre:=allBut s.heap [L,x]) (post:=[]) (ox':=ins C dx sl') (s:={ s with toks:=s.toks + 1 }) S₁.fr (S₁.news1 hx) S₁.In (S₁.inst hx hd) hi hz allBut_ne (λ_ hq=>by cases hq) (by subst e;rfl) rfl λh' F' N'=>?_))
 exact h _ (S₁.ofNews1 hx (by rintro ⟨_,e⟩;cases e) F' N' _)
theorem Rm.make {A:Around} {k:Nat} {C:Addr} {rest:List Value} {kw:List (Str×Value)} (h:Rm A (k + 1)):Rm (A.under (.builtin "type.__call__" ⟨.ref C :: rest,kw⟩)) k:=by
 refine ⟨?_,?_⟩
 ·show A.depth + _ + k < 400;rw [show (Code.builtin "type.__call__" ⟨.ref C :: rest,kw⟩).weight=1 from by rfl];have:=h.d;exact om110 this
 ·show A.units + _ + 16 * k < 8000;have:=h.u;rw [show (Code.builtin "type.__call__" ⟨.ref C :: rest,kw⟩).cUnits=1 from by rfl];exact om111 this
theorem c_make {C fI:Addr} {rest:List Value} {Q:Value->Shared->Prop} (S:St B L m g s) (hm:makesIn (HF w) C=true)
  (hi:findIn (HF w) (.ref C) "__init__"=some (some (.ref fI))) (hf:typeIn (HF w) (.ref fI)=some (.type "function"))
  (h:∀ x dx s',St B L m (put (put g dx emptyDict) x (ins C dx #[])) s'->g dx=none->g x=none->dx≠x ->
   codeAny (model PG w) (A.under (.builtin "type.__call__" ⟨.ref C :: rest,[]⟩)) (.call (.ref fI) ⟨.ref x :: rest,[]⟩) (λr s'=>match r with|.ok (.ret v)=>v=.none∧Q (.ref x) s'|.ok _=>False|.error e=>E e s') s') :
  wpAny (model PG w) A (call (.ref C) rest) Q E s:=by
 refine wpAny_call (make_K S.fr (S.news (xs:=[L]) (by simp)) S.In hm hi hf λx dx h' F' N' l1 l2=>?_);have S':=S.ofNews F' N' (λp hp=>.tail _ (.tail _ hp)) s.toks;have nx:∀ b o,s.heap.get? b=some o->b≠L->b < dx:=λb o e hb=>l1 (b,o) (mem_allBut.mpr ⟨e,by simp [hb]⟩);have m1:=N' (dx,emptyDict) (.tail _ (.head _));have m2:=N' (x,instObj C dx) (.head _)
 have gn:∀ a,dx≤a->g a=none:=λa ha=>by
  cases q:g a with
  |none=>rfl
  |some o=>exact absurd (nx a o (S.sub q) (S.ne q).symm) (Nat.not_lt.mpr ha)
 have bn:∀ a,dx≤a->B.base a=none:=λa ha=>by
  cases q:B.base a with
  |none=>rfl
  |some o=>
   obtain ⟨o',e'⟩:=(S.ov _ _ q).is;exact absurd (nx a o' e' (by rintro rfl;rw [S.offb] at q;cases q)) (Nat.not_lt.mpr ha)
 have z1:321 < dx:=by obtain ⟨_,e,_⟩:=S.kp.t1;exact nx _ _ e S.o1.symm
 have z2:293 < dx:=by obtain ⟨_,e,_⟩:=S.kp.t2;exact nx _ _ e S.o2.symm
 have S₁:=S'.take m1.1 (bn _ (Nat.le_refl _)) m1.2.1 (Nat.ne_of_gt z1) (Nat.ne_of_gt z2);have S₂:=S₁.take m2.1 (bn _ (Nat.le_of_lt l2)) m2.2.1 (Nat.ne_of_gt (Nat.lt_trans z1 l2)) (Nat.ne_of_gt (Nat.lt_trans z2 l2));have c:=h x dx _ S₂ (gn _ (Nat.le_refl _)) (gn _ (Nat.le_of_lt l2)) (Nat.ne_of_lt l2);refine codeAny_mono c λr s' hr=>?_;rcases r with e|(v|_|_|_) <;> exact hr
end
theorem store_function:StoreFacts "function" [.type "function",.type "object"] "object.__setattr__" "object" where
 mro:=by kernel_rfl
 slot:=.of (owner:="object") (n:="__setattr__") (by rw [typeLookup_type,builtinLookup_eq_fast];kernel_rfl) (by decide +kernel) (by decide +kernel) (by decide +kernel)
  (by first|exact .inl (by decide +kernel)|exact .inr (by decide +kernel)) (by rw [isSubtype_type];kernel_rfl)
 entry:=F.entry_object_sa
 kind:=by decide +kernel
 split:=by decide +kernel
 hasOwner:=by decide +kernel
 args:=λa b c=>by unfold argsOk;kernel_rfl
 passes:=λself=>by kernel_rfl
section
variable {w:World} {B:Bs w} {A:Around} {L:Addr} {m m':Str->Option Value} {g:PH} {s:Shared} {env:Env} {E:Value->Shared->Prop} {pl:Sem Bool}
theorem ns_put {d:Addr} {od:Obj} {ks:List Str} {mA:Str->Option Value} {x:Str} {v:Value} {Q:Unit->Shared->Prop} (S:St B L m g s) (hd:g d=some od) (oa:OA ks mA od)
  (h:∀ s' od',OA (kadd ks x) (up mA x v) od'->St B L m (put g d od') s'->Q () s'):wpAny (model PG w) A (nsSet d x v) Q E s:=by
 have oc:=oa.code;have oa₀:=oa;obtain ⟨es,n,rfl,hs,hf⟩:=oa;unfold nsSet;refine wpAny_bind (wpAny_bind (wpAny_askSetting (wpAny_pure ?_)));refine wpAny_bind (wpAny_mkText (wpAny_bind (wpAny_loadPart (o:=dictOf es n) (S.sub hd) ?_)))
 have c:(!es.toArray.any (·.key.isStr x) && es.toArray.any (·.refKey))=false:=by
  have:es.any (·.refKey)=false:=by
   rw [List.any_eq_false];intro e he;have:kStr e.key∈ks.map some:=by rw [<-hs];exact List.mem_map.mpr ⟨e,he,rfl⟩
   obtain ⟨k,_,hk⟩:=List.mem_map.mp this;unfold DictEntry.refKey;obtain ⟨t,q⟩:=kStr_some hk.symm;rw [q];simp
  simp [this]
 dsimp only;rw [aRefKeyMayBeTheName_at,c];refine wpAny_updatePart (o:=dictOf es n) (S.sub hd) ?_;have S₁:=S.toks (s.toks + 1)
 have key:∀ hh k,(s.heap.update d (Obj.putName x hh k v)).get? d=some (dictOf (putL x hh k v es) (putN x es n)):=λhh k=>by
  rw [Heap.get?_update_self _ (S.sub hd) (by rw [putName_dict];rfl),putName_dict]
 exact h _ _ oa₀.put (S₁.set hd oc (Heap.SameBut.update ..) (key _ _) _)
theorem ns_get {d:Addr} {od:Obj} {ks:List Str} {mA:Str->Option Value} {x:Str} {Q:Option Value->Shared->Prop} (S:St B L m g s) (hd:g d=some od) (oa:OA ks mA od) (h:Q (mA x) s):wpAny (model PG w) A (nsGet d x) Q E s:=by
 obtain ⟨es,n,rfl,hs,hf⟩:=oa;refine wpAny_nsGet (m:=mA) ⟨_,es.toArray,n,S.sub hd,rfl,λe he=>?_,λy=>?_⟩ h
 ·have:kStr e.key∈ks.map some:=by rw [<-hs];exact List.mem_map.mpr ⟨e,by simpa using he,rfl⟩
  obtain ⟨k,_,hk⟩:=List.mem_map.mp this;exact ⟨_,kStr_some hk.symm⟩
 ·have:=hf y;rw [getL_of_strs _ hs] at this;unfold nsFind findBy;rw [List.find?_toArray];exact Option.some.inj this
noncomputable abbrev fno (fd:FuncData) (d:Option Addr) (sl:Array (Option Value)):Obj:=⟨.type "function",d,.func fd,sl⟩
theorem fa_in_dict {d:Addr} {od:Obj} {ks:List Str} {mA:Str->Option Value} {x:Str} {tk:Tok} {v:Value} {R:Result->Shared->Prop} (S:St B L m g s) (hd:g d=some od) (oa:OA ks mA od) (hz:ks.length < 400)
  (h:∀ s' od',OA (kadd ks x) (up mA x v) od'->St B L m (put g d od') s'->R (.ok (.ret .none)) s') :
  wpAny (model PG w) A.in1 (Builtin.ObjectAttr.storeInDict d (.str x tk) x v) (λfin s'=>match fin with|.done f=>R (.ok f) s'|.again c'=>c'.quiet=true∧codeAny (model PG w) A c' R s') E s:=by
 unfold Builtin.ObjectAttr.storeInDict;refine wpAny_bind (wpAny_pure (wpAny_bind (ns_put S hd oa λs' od' oa' S'=>?_)));have oa'':=oa';obtain ⟨es,n,rfl,_⟩:=oa';refine wpAny_bind (wpAny_lookBehind (S'.sub (put_self ..)) (pastItsLine_dict ?_) (wpAny_pure (h _ _ oa'' S')));rw [List.size_toArray,oa''.len,sizeLine_eq];have:=len_kadd ks x;exact om152 hz this
theorem fa_open {f:Addr} {fd:FuncData} {od:Option Addr} {sl:Array (Option Value)} {name:Str} {v:Value} {Q:Unit->Shared->Prop} (S:St B L m g s) (hf:g f=some (fno fd od sl)) (hn:typeLookup (.type "function") name=pure none)
  (h:∀ s' tk (R:Result->Shared->Prop),St B L m g s'->(∀ s'',Q () s''->R (.ok (.ret .none)) s'')->wpAny (model PG w) A.in1 (Builtin.ObjectAttr.storeInOwnDict (.ref f) (.type "function") (.str name tk) name v false)
   (λfin s'=>match fin with|.done f=>R (.ok f) s'|.again c'=>c'.quiet=true∧codeAny (model PG w) A c' R s') (λe s'=>R (.error e) s') s') :
  wpAny (model PG w) A (setAttr (.ref f) name v) Q E s:=by
 have SF:=store_function;have S₁:=S.toks (s.toks + 1);have hT:({ s with toks:=s.toks + 1 }:Shared).TypeIs (.ref f) "function":=⟨_,S.sub hf,rfl⟩
 have code:∀ R:Result->Shared->Prop,(∀ s'',Q () s''->R (.ok (.ret .none)) s'')->codeAny (model PG w) A (.call (.builtin "object.__setattr__") ⟨[.ref f,.str name s.toks,v],[]⟩) R { s with toks:=s.toks + 1 }:=λR hR=>by
  refine codeAny_call_builtin SF.slot.plain SF.entry (SF.slot.check _ _ _ _ _ _ _ _ hT (SF.args _ _ _) ?_);rw [osa_eq,refuse_eq];refine wpAny_bind (wpAny_bind (wpAny_typeOf hT (wpAny_bind (wpAny_of_eq SF.mro ?_))));rw [SF.passes];refine wpAny_pure (wpAny_bind (wpAny_typeOf hT (wpAny_bind (wpAny_of_eq hn (wpAny_bind (wpAny_pure ?_))))));exact h _ _ _ S₁ hR
 unfold setAttr;exact wpAny_bind (wpAny_mkText (wpAny_bind (wpAny_callSpecial?_slot hT SF.slot (wpAny_call (code _ λs'' q=>wpAny_pure q)))))
theorem fa_set {f d:Addr} {fd:FuncData} {sl:Array (Option Value)} {od:Obj} {ks:List Str} {mA:Str->Option Value} {name:Str} {v:Value} {Q:Unit->Shared->Prop} (S:St B L m g s) (hf:g f=some (fno fd (some d) sl)) (hd:g d=some od) (oa:OA ks mA od) (hz:ks.length < 400)
  (hn:typeLookup (.type "function") name=pure none) (h:∀ s' od',OA (kadd ks name) (up mA name v) od'->St B L m (put g d od') s'->Q () s'):wpAny (model PG w) A (setAttr (.ref f) name v) Q E s:=by
 refine fa_open S hf hn λs₁ tk R S₁ hR=>?_;unfold Builtin.ObjectAttr.storeInOwnDict;refine wpAny_bind (wpAny_pure (wpAny_bind (wpAny_bind (wpAny_loadPart (S₁.sub hf) (wpAny_pure ?_)))));exact fa_in_dict S₁ hd oa hz λs' od' oa' S'=>hR _ (h _ _ oa' S')
theorem fa_new {f:Addr} {fd:FuncData} {sl:Array (Option Value)} {name:Str} {v:Value} {Q:Unit->Shared->Prop} (S:St B L m g s) (hf:g f=some (fno fd none sl))
  (hn:typeLookup (.type "function") name=pure none) (h:∀ s' d od',OA [name] (up (λ_=>none) name v) od'->g d=none->f≠d->St B L m (put (put g d od') f (fno fd (some d) sl)) s'->Q () s'):wpAny (model PG w) A (setAttr (.ref f) name v) Q E s:=by
 refine fa_open S hf hn λs₁ tk R S₁ hR=>?_;unfold Builtin.ObjectAttr.storeInOwnDict;refine wpAny_bind (wpAny_pure (wpAny_bind (wpAny_bind (wpAny_loadPart (S₁.sub hf) ?_))));have th:typeHasDict (.type "function")=true:=by decide +kernel
 have fin:finalisedInACycleAlone "function"=false:=by decide +kernel
 simp -iota only [th,Bool.not_true,Bool.or_self,Bool.false_eq_true,if_false];have S₂:=S₁.alloc { cls:=.type "dict",data:=.dict #[] } s₁.toks;have gd:=S₁.kp.fresh (Nat.le_refl s₁.heap.objs.size);have hf₂:put g s₁.heap.objs.size { cls:=.type "dict",data:=.dict #[] } f=some (fno fd none sl):=put_of gd hf;have ne:f≠s₁.heap.objs.size:=by rintro rfl;rw [gd] at hf;cases hf
 refine wpAny_bind (wpAny_alloc (wpAny_bind (wpAny_update (S₂.sub hf₂) ?_)));have S₃:=S₂.set hf₂ (by rintro ⟨vs,e⟩;cases e) (Heap.SameBut.update _ f (λo=>{ o with dict:=some s₁.heap.objs.size })) (Heap.get?_update_self _ (S₂.sub hf₂) rfl) s₁.toks;unfold dictMade;simp -iota only [fin,Bool.false_eq_true,if_false];refine wpAny_bind (wpAny_pure (wpAny_pure ?_));refine fa_in_dict (ks:=[]) (mA:=λ_=>none) S₃ (d:=s₁.heap.objs.size) (od:=dictOf [] 0) (by rw [put_ne ne.symm];exact put_self ..) OA.nil (by decide) λs' od' oa' S'=>hR _ (h _ s₁.heap.objs.size od' oa' gd ne ?_);rw [put_comm ne,put_put] at S';exact S'
end
theorem slot_fga:Slot "function" "__getattribute__" "object.__getattribute__":=
 .of (owner:="object") (n:="__getattribute__") (by rw [typeLookup_type,builtinLookup_eq_fast];kernel_rfl) (by decide +kernel) (by decide +kernel) (by decide +kernel)
  (by first|exact .inl (by decide +kernel)|exact .inr (by decide +kernel)) (by rw [isSubtype_type];kernel_rfl)
theorem entry_oga:entryFor table "object.__getattribute__"=some Builtin.«object.__getattribute__»:=entryFor_of_tree (by kernel_rfl)
theorem args_oga (a:Value) (x:Str) (t:Tok):argsOk "object.__getattribute__" ⟨[a,.str x t],[]⟩:=by unfold argsOk;kernel_rfl
section
variable {w:World} {B:Bs w} {A:Around} {L:Addr} {m m':Str->Option Value} {g:PH} {s:Shared} {env:Env} {E:Value->Shared->Prop} {pl:Sem Bool}
theorem fa_get {f d:Addr} {fd:FuncData} {sl:Array (Option Value)} {od:Obj} {ks:List Str} {mA:Str->Option Value} {name:Str} {v:Value} {ex:Bool} {Q:Value->Shared->Prop} (S:St B L m g s) (hf:g f=some (fno fd (some d) sl)) (hd:g d=some od) (oa:OA ks mA od)
  (hv:mA name=some v) (hn:typeLookup (.type "function") name=pure none) (hh:handedIn v=true) (h:∀ s',St B L m g s'->Q v s'):wpAny (model PG w) A (getAttr (.ref f) name ex) Q E s:=by
 have S₁:=S.toks (s.toks + 1);have hT:({ s with toks:=s.toks + 1 }:Shared).TypeIs (.ref f) "function":=⟨_,S.sub hf,rfl⟩
 have code:∀ R:Result->Shared->Prop,R (.ok (.ret v)) { s with toks:=s.toks + 1 }->codeAny (model PG w) A (.call (.builtin "object.__getattribute__") ⟨[.ref f,.str name s.toks],[]⟩) R { s with toks:=s.toks + 1 }:=λR hR=>by
  refine codeAny_call_builtin slot_fga.plain entry_oga (slot_fga.check _ _ _ _ _ _ _ _ hT (args_oga _ _ _) ?_);unfold Builtin.«object.__getattribute__»;refine wpAny_bind (wpAny_pure (wpAny_bind (wpAny_pure (wpAny_bind (wpAny_typeOf hT ?_)))));unfold Builtin.ObjectAttr.find;refine wpAny_bind (wpAny_bind (wpAny_of_eq hn (wpAny_bind (wpAny_pure (wpAny_bind (wpAny_pure ?_))))));unfold Builtin.ObjectAttr.ownThenClass;refine wpAny_bind (wpAny_bind (wpAny_bind (wpAny_bind (wpAny_loadPart (S₁.sub hf) ?_))));refine wpAny_pure (wpAny_bind (wpAny_loadPart (S₁.sub hf) (wpAny_pure ?_)));refine ns_get S₁ hd oa ?_;rw [hv];exact wpAny_bind (wpAny_rule (wpAny_pure (wpAny_pure hR)))
 unfold getAttr getAttrBy;refine wpAny_bind (wpAny_mkText (wpAny_holding (wpAny_bind (wpAny_typeOf hT (wpAny_bind (wpAny_of_eq slot_fga.lookup ?_))))));have ot:onTheHeap (.type "function")=false:=by decide +kernel
 dsimp only;rw [ot];simp only [Bool.false_and,Bool.false_eq_true,if_false];unfold getAttrByItsOwn hookBefore;rw [ot];refine wpAny_bind (wpAny_pure (wpAny_bind (wpAny_attempt (wpAny_holding ?_))));have oh:onTheHeap (.builtin "object.__getattribute__")=false:=by decide +kernel
 unfold callGetattribute;rw [oh,Bool.and_false];simp only [Bool.false_eq_true,if_false];unfold boundAndCalled;rw [slot_fga.bind];refine wpAny_bind (wpAny_pure (wpAny_call (code _ ?_)));exact handed_on hh (h _ S₁)
theorem gm_fn {f d:Addr} {fd:FuncData} {sl:Array (Option Value)} {od:Obj} {ks:List Str} {mA:Str->Option Value} {name:Str} {v:Value} {Q:Value×List Value->Shared->Prop} (S:St B L m g s) (hf:g f=some (fno fd (some d) sl)) (hd:g d=some od) (oa:OA ks mA od)
  (hv:mA name=some v) (hn:typeLookup (.type "function") name=pure none) (hg:typeLookup (.type "function") "__getattr__"=pure none) (hh:handedIn v=true) (h:∀ s',St B L m g s'->Q (v,[]) s'):wpAny (model PG w) A (getMethod (.ref f) name pl) Q E s:=by
 have hT:s.TypeIs (.ref f) "function":=⟨_,S.sub hf,rfl⟩;unfold getMethod;refine wpAny_bind (wpAny_specialOf hT slot_fga.lookup ?_);dsimp only;rw [PySem.F.canon_object_ga,if_neg (by decide)];refine wpAny_bind (wpAny_specialOf hT hg (wpAny_bind (wpAny_specialOf hT hn ?_)));exact wpAny_bind (fa_get S hf hd oa hv hn hh λs' S'=>wpAny_pure (h _ S'))
end
noncomputable def Has {w:World} (B:Bs w) (g:PH) (a:Addr) (o:Obj):Prop:=g a=some o∨B.base a=some (.ex o)
noncomputable def CellAt {w:World} (B:Bs w) (g:PH) (c:Addr) (v:Value):Prop:=∃ o,Has B g c o∧o.data=.cell (some v)
noncomputable def Sub (g g':PH):Prop:=∀ b o,g b=some o->g' b=some o
theorem Sub.rfl {g:PH}:Sub g g:=λ_ _ e=>e
theorem Sub.trans {g g' g'':PH} (h:Sub g g') (k:Sub g' g''):Sub g g'':=λ_ _ e=>k _ _ (h _ _ e)
theorem Sub.put {g:PH} {a:Addr} {o:Obj} (h:g a=none):Sub g (put g a o):=λ_ _ e=>put_of h e
noncomputable def Chg (X:List Addr) (g g':PH):Prop:=∀ b o,b∉X->g b=some o->g' b=some o
theorem Sub.chg {g g':PH} {X:List Addr} (h:Sub g g'):Chg X g g':=λb o _ e=>h b o e
theorem Chg.trans {g g' g'':PH} {X:List Addr} (h:Chg X g g') (k:Chg X g' g''):Chg X g g'':=λb o hb e=>k b o hb (h b o hb e)
theorem Chg.put {g:PH} {a:Addr} {o:Obj} {X:List Addr} (h:a∈X):Chg X g (put g a o):=λb x hb e=>by
 rw [put_ne];exact e;rintro rfl;exact hb h
noncomputable def LamCode (g:PH) (cdv:Value) (q:Str):Prop:=Ex4 λc oc vs t=>And4 (cdv=.ref c) (g c=some oc) (oc.data=.fields vs) (vs[1]?=some (.str q t))
theorem LamCode.chg {X:List Addr} {g g':PH} {cdv:Value} {q:Str} (h:LamCode g cdv q) (k:Chg X g g') (hX:∀ x∈X,∃ o,g x=some o∧¬ CD o):LamCode g' cdv q:=by
 obtain ⟨c,oc,vs,t,e1,e2,e3,e4⟩:=h;refine ⟨c,oc,vs,t,e1,k _ _ (λhc=>?_) e2,e3,e4⟩;obtain ⟨o,ho,hn⟩:=hX _ hc;rw [e2] at ho;cases ho;exact hn ⟨vs,e3⟩
theorem LamCode.sub {g g':PH} {cdv:Value} {q:Str} (h:LamCode g cdv q) (k:Sub g g'):LamCode g' cdv q:=h.chg (X:=[]) k.chg (λ_ h=>by cases h)
section
variable {w:World} {B:Bs w} {A:Around} {L:Addr} {m m':Str->Option Value} {g:PH} {s:Shared} {env:Env} {E:Value->Shared->Prop} {pl:Sem Bool}
theorem Has.get {a:Addr} {o:Obj} (h:Has B g a o) (K:Kp B g s):s.heap.get? a=some o:=by
 rcases h with h|h
 ·exact K.sub _ _ h
 ·exact K.ov _ _ h
theorem CellAt.is {c:Addr} {v:Value} (h:CellAt B g c v) (K:Kp B g s):s.heap.IsCell c (some v):=by
 obtain ⟨o,h,e⟩:=h;exact ⟨o,h.get K,e⟩
theorem r_cell {x:Str} {pos:Pos} {c:Addr} {v:Value} {Q:Value->Shared->Prop} (S:St B L m g s) (hc:env.cells.lookup x=some c) (hv:CellAt B g c v) (h:Q v s)
  (hk:env.scope.kind=.function:=by rfl) (hl:env.kindOf x=some .cell:=by rfl) (hd:(x == ("__debug__":Str))=false:=by decide) :
  wpAny (model PG w) A (eval (.Name x pos) env) Q E s:=wpAny_Name (wpAny_loadName_cell hk hl hc (hv.is S.kp) h) hd
theorem r_free {x:Str} {pos:Pos} {c:Addr} {v:Value} {Q:Value->Shared->Prop} (S:St B L m g s) (hc:env.cells.lookup x=some c) (hv:CellAt B g c v) (h:Q v s)
  (hk:env.scope.kind=.function:=by rfl) (hl:env.kindOf x=some .free:=by rfl) (hd:(x == ("__debug__":Str))=false:=by decide) (hn:(x == ("__classdict__":Str))=false:=by decide) :
  wpAny (model PG w) A (eval (.Name x pos) env) Q E s:=wpAny_Name (wpAny_loadName_free hk hl hc (hv.is S.kp) h hn) hd
theorem r_storeCell {x:Str} {c:Addr} {v:Value} {o:Obj} {v₀:Option Value} {Q:Unit->Shared->Prop} (S:St B L m g s) (ho:g c=some o) (hd:o.data=.cell v₀) (h:∀ s' o',o'.data=.cell (some v)->St B L m (put g c o') s'->Q () s')
  (hc:env.cells.lookup x=some c:=by rfl) (hk:env.scope.kind=.function:=by rfl) (hl:env.kindOf x=some .cell:=by rfl):wpAny (model PG w) A (storeName env x v) Q E s:=by
 refine wpAny_storeName_cell hk hl hc ⟨o,S.sub ho,hd⟩ λh' hc' hs'=>?_;obtain ⟨o',ho',hd'⟩:=hc';exact h _ o' hd' (S.set ho (by rintro ⟨_,e⟩;rw [hd] at e;cases e) hs' ho' s.toks)
theorem call_cells {k:Nat} {R:Result->Shared->Prop} {name qual:Str} {params:Arguments} {body:List Stmt} {scope:Scope} {dV kV doc pm cdv ct oc:Value} {an od:Option Addr} {osl:Array (Option Value)} {f:Addr} {vals:List Value} {binds:List (Str×Value)}
  (K:Kp B g s) (hr:Rm A k) (ho:(HF w).lookup f=some ⟨oc,od,.func (fnX name qual params body scope [] dV kV doc pm an cdv ct),osl⟩) (hcd:codeIn (HF w) cdv qual=true)
  (hbind:bindArgs (fnX name qual params body scope [] dV kV doc pm an cdv ct) ⟨vals,[]⟩=pure binds)
  (hkind:∀ x∈binds,scope.names.lookup x.1=some .local∨(scope.names.lookup x.1=some .cell∧((cellsFrom (s.heap.objs.size + 1) scope.names []).lookup x.1).isSome=true))
  (h:∀ L s' E',St B L (bindL (λx=>scope.names.lookup x) binds λ_=>none) g s' ->
   (∀ n c,(cellsFrom (L + 1) scope.names []).lookup n=some c->(∃ o,s'.heap.get? c=some o∧o.data=.cell (bindC (λx=>scope.names.lookup x) binds (λ_=>none) n))∧g c=none∧B.base c=none∧c≠L∧c≠321∧c≠293) ->
   wpAny (model PG w) (A.deeper (envX qual scope L f cdv (cellsFrom (L + 1) scope.names []))) (execs body (envX qual scope L f cdv (cellsFrom (L + 1) scope.names []))) (λfl s'=>R (.ok (.ret (match fl with|.ret v=>v|_=>.none))) s') E' s')
  (hco:scope.isCoroutine=false:=by rfl) (hgen:scope.isGenerator=false:=by rfl) (hk:scope.kind=.function:=by rfl):codeAny (model PG w) A (.call (.ref f) ⟨vals,[]⟩) R s:=by
 have hdep:A.depth < recursionLimit:=by have:=hr.d;show A.depth < 1000;exact om0 this
 have hz:=K.size;have X:(HF w).In s.heap:=λa o e=>K.ov _ _ (B.X _ _ e);refine codeAny_call_cells (fd:=fnX name qual params body scope [] dV kV doc pm an cdv ct) hdep (X _ _ ho) rfl (B.nolimit _ K.ov) (codeRec_of X hcd) rfl hbind rfl hkind (λs₁ I=>?_) hco hgen hk;obtain ⟨h',tk,rfl⟩:=I.toInCall.same;refine h s.heap.objs.size _ _ ⟨K.grow (λb o e=>I.toInCall.keep b o e) _,I.toInCall.ns,K.fresh (Nat.le_refl _),K.freshB (Nat.le_refl _),Nat.ne_of_gt hz.1,Nat.ne_of_gt hz.2⟩ λn c hn=>?_;have hL:s.heap.objs.size < c:=I.above n c (PySem.mem_of_lookup hn);refine ⟨I.cell n c hn,K.fresh (Nat.le_of_lt hL),K.freshB (Nat.le_of_lt hL),Nat.ne_of_gt hL,Nat.ne_of_gt (Nat.lt_trans hz.1 hL),Nat.ne_of_gt (Nat.lt_trans hz.2 hL)⟩
noncomputable abbrev lamF (qual:Str) (params:Arguments) (body:Expr) (scope:Scope) (cl:List (Str×Addr)) (pm cdv ct:Value):FuncData:=kla_fn "<lambda>" qual params body scope cl pm cdv ct
theorem St.tabbed (S:St B L m g s) {P c':Addr} {oc:Obj} {h':Heap} (hP:B.base P=none) (hg:g P=none) (hL:L≠P) (hx:Heap.ExtBut P s.heap h') (hc:h'.get? c'=some oc) (hn:s.heap.objs.size≤c')
  (t1:TabOk (put g c' oc) h' 321 (Str.ofString "_law_read.<locals>.<lambda>")) (t2:TabOk (put g c' oc) h' 293 (Str.ofString "_law_thing.<locals>.<lambda>")) (tk:Nat):St B L m (put g c' oc) { s with heap:=h',toks:=tk }:=by
 have hz:=S.kp.size;have n1:(321:Addr)≠c':=Nat.ne_of_lt (Nat.lt_of_lt_of_le hz.1 hn);have n2:(293:Addr)≠c':=Nat.ne_of_lt (Nat.lt_of_lt_of_le hz.2 hn);have nL:L≠c':=Nat.ne_of_lt (Nat.lt_of_lt_of_le S.ns.lt hn);have gP:∀ b o,g b=some o->b≠P:=λb o e=>by rintro rfl;rw [hg] at e;cases e
 have bP:∀ b o,B.base b=some o->b≠P:=λb o e=>by rintro rfl;rw [hP] at e;cases e
 refine ⟨⟨λb o e=>(S.ov _ _ e).of λo' e'=>hx _ _ (bP _ _ e) e',λb o e=>?_,λb o e=>?_,S.kp.gens,S.kp.os,t1,t2,(put_ne n1).trans S.kp.h1,(put_ne n2).trans S.kp.h2⟩,S.ns.extBut hx hL,(put_ne nL).trans S.off,S.offb,S.o1,S.o2⟩
 ·by_cases hb:b=c'
  ·subst hb;rw [put_self] at e;cases e;exact hc
  ·rw [put_ne hb] at e;exact hx _ _ (gP _ _ e) (S.sub e)
 ·by_cases hb:b=c'
  ·subst hb;exact S.kp.freshB hn
  ·rw [put_ne hb] at e;exact S.kp.dis _ _ e
theorem TabOk.more {P c':Addr} {q:Str} {ps:Array Value} {oc:Obj} {vs:Array Value} {t:Tok} {h h':Heap} {pos:Pos} (T:TriplesOk ps.toList) (hT:∀ pos cv,codeAmong pos ps.toList=some cv->Ex4 λc oc vs t=>And4 (cv=.ref c) (g c=some oc) (oc.data=.fields vs) (vs[1]?=some (.str q t)))
  (hP:h'.get? P=some (tabObj (ps ++ #[rawInt pos.line,rawInt pos.col,.ref c']))) (hg:g c'=none) (hd:oc.data=.fields vs) (hv:vs[1]?=some (.str q t)):TabOk (put g c' oc) h' P q:=by
 refine ⟨_,hP,by simpa using TriplesOk_snoc _ _ _ _ T,λp cv e=>?_⟩
 have key:∀ l:List Value,TriplesOk l->codeAmong p (l ++ [rawInt pos.line,rawInt pos.col,.ref c'])=some cv->codeAmong p l=some cv∨cv=.ref c':=λl hl e=>by
  cases q:codeAmong p l with
  |some x=>
   left
   rw [<-e];clear e
   fun_induction TriplesOk l with
   |case1=>simp [codeAmong] at q
   |case2 a t b u x' rest ih=>
    simp only [List.cons_append,codeAmong] at q ⊢
    split at q
    ·rename_i hc;rw [if_pos hc,q]
    ·rename_i hc;rw [if_neg hc];exact ih hl q
   |case3 l h1 h2=>exact hl.elim
  |none=>
   right
   revert e
   fun_induction TriplesOk l with
   |case1=>intro e;simp only [List.nil_append,codeAmong,rawInt] at e;split at e <;> simp_all
   |case2 a t b u x' rest ih=>
    intro e;simp only [List.cons_append,codeAmong] at q e
    split at q
    ·cases q
    ·rename_i hc;rw [if_neg hc] at e;exact ih hl q e
   |case3 l h1 h2=>exact hl.elim
 rcases key _ T (by simpa using e) with e|rfl
 ·obtain ⟨c,oc',vs',t',e1,e2,e3,e4⟩:=hT _ _ e;exact ⟨c,oc',vs',t',e1,put_of hg e2,e3,e4⟩
 ·exact ⟨c',oc,vs,t,rfl,put_self ..,hd,hv⟩
theorem St.builtinsAt (S:St B L m g s) {P:Addr} (hP:B.base P=none):s.heap.BuiltinsAt B.mg P:=by
 obtain ⟨bm,ob,b1,b2,b3,b4,b5,b6⟩:=B.bm;refine ⟨bm,ob,b1,b2,?_,?_,S.ov _ _ b3,b4,b5,b6⟩
 ·rintro rfl;obtain ⟨o,es,ep,e,hd,_⟩:=B.g _ S.ov;have b3':s.heap.get? _=some ob:=S.ov _ _ b3;rw [b3'] at e;cases e;rw [b6] at hd;cases hd
 ·rintro rfl;rw [hP] at b3;cases b3
theorem mg_ne_tab (S:St B L m g s) {P:Addr} {ps:Array Value} (h:s.heap.get? P=some (tabObj ps)):mainGlobals≠P:=by
 rintro rfl;obtain ⟨o,es,ep,e,hd,_⟩:=B.g _ S.ov;rw [h] at e;cases e;cases hd
theorem r_lam_thing {params:Arguments} {body:Expr} {scope:Scope} {pos:Pos} {clos:List (Str×Addr)} {Q:Value->Shared->Prop} (S:St B L m g s)
  (h:∀ s' f cdv ct pm g',Sub g g'->LamCode g' cdv (env.qual ++ "<lambda>")->g f=none->g' f=none->St B L m (put g' f (fno (lamF (env.qual ++ "<lambda>") params body scope clos pm cdv ct) none #[])) s'->Q (.ref f) s')
  (hcl:closureFor scope env=pure clos:=by rfl) (hcode:env.code=.ref 297:=by rfl) (hg0:env.globals=mainGlobals:=by rfl) (hdef:defaultsOf params env=([],[]):=by rfl)
  (hq:env.qual ++ "<lambda>"=Str.ofString "_law_thing.<locals>.<lambda>":=by rfl) :
  wpAny (model PG w) A (eval (.Lambda params body scope pos) env) Q E s:=by
 rw [hq] at h;refine kla_eval hdef ?_;rw [hq];refine gq λ_ z1=>?_;obtain ⟨ps,hP,T,hT⟩:=id S.kp.t2;refine z1 ?_;cases hf:codeAmong pos ps.toList with
 |none=>
  refine kla_makeFunction (mg:=B.mg) hcl hg0 (B.g _ S.ov) hcode (B.c2 _ S.ov) hP T hf (mg_ne_tab S hP) (S.builtinsAt B.h2) λc' ctv h' tk hx hge hlt hrec htb=>?_;refine gq λ_ z2=>?_;obtain ⟨c₂,oc,vs,t,e2,hoc,hd,hv⟩:=hrec;refine z2 ?_;cases e2;have gc:=S.kp.fresh hge;have S₁:=S.tabbed B.h2 S.kp.h2 S.o2 hx hoc hge (S.kp.t1.mono (λo e=>hx _ _ (by decide) e) (λb o _ e=>put_of gc e)) (TabOk.more (h:=h') T hT htb gc hd hv) tk;have hgs:g h'.objs.size=none:=S.kp.fresh (Nat.le_of_lt (Nat.lt_of_le_of_lt hge hlt));exact h _ _ _ ctv _ _ (Sub.put gc) ⟨c',oc,vs,t,rfl,put_self ..,hd,hv⟩ hgs (S₁.kp.fresh (Nat.le_refl _)) (S₁.alloc _ tk)
 |some cv=>
  refine gq λ_ z3=>?_;obtain ⟨c,oc,vs,t,e1,e2,e3,e4⟩:=hT _ _ hf;refine z3 ?_;refine kla_makeFunctionHit (mg:=B.mg) hcl hg0 (B.g _ S.ov) hcode (B.c2 _ S.ov) hP T hf (S.builtinsAt B.h2) λctv h' tk hk hsz=>?_;have S₁:=S.grow hk tk;exact h _ _ _ ctv _ _ Sub.rfl ⟨c,oc,vs,t,e1,e2,e3,e4⟩ (S₁.kp.fresh (Nat.le_refl _)) (S₁.kp.fresh (Nat.le_refl _)) (S₁.alloc _ tk)
theorem r_lam_read {params:Arguments} {body:Expr} {scope:Scope} {pos:Pos} {clos:List (Str×Addr)} {Q:Value->Shared->Prop} (S:St B L m g s)
  (h:∀ s' f cdv ct pm g',Sub g g'->LamCode g' cdv (env.qual ++ "<lambda>")->g f=none->g' f=none->St B L m (put g' f (fno (lamF (env.qual ++ "<lambda>") params body scope clos pm cdv ct) none #[])) s'->Q (.ref f) s')
  (hcl:closureFor scope env=pure clos:=by rfl) (hcode:env.code=.ref 323:=by rfl) (hg0:env.globals=mainGlobals:=by rfl) (hdef:defaultsOf params env=([],[]):=by rfl)
  (hq:env.qual ++ "<lambda>"=Str.ofString "_law_read.<locals>.<lambda>":=by rfl) :
  wpAny (model PG w) A (eval (.Lambda params body scope pos) env) Q E s:=by
 rw [hq] at h;refine kla_eval hdef ?_;rw [hq];refine gq λ_ z4=>?_;obtain ⟨ps,hP,T,hT⟩:=id S.kp.t1;refine z4 ?_;cases hf:codeAmong pos ps.toList with
 |none=>
  refine kla_makeFunction (mg:=B.mg) hcl hg0 (B.g _ S.ov) hcode (B.c1 _ S.ov) hP T hf (mg_ne_tab S hP) (S.builtinsAt B.h1) λc' ctv h' tk hx hge hlt hrec htb=>?_;refine gq λ_ z5=>?_;obtain ⟨c₂,oc,vs,t,e2,hoc,hd,hv⟩:=hrec;refine z5 ?_;cases e2;have gc:=S.kp.fresh hge;have S₁:=S.tabbed B.h1 S.kp.h1 S.o1 hx hoc hge (TabOk.more (h:=h') T hT htb gc hd hv) (S.kp.t2.mono (λo e=>hx _ _ (by decide) e) (λb o _ e=>put_of gc e)) tk;have hgs:g h'.objs.size=none:=S.kp.fresh (Nat.le_of_lt (Nat.lt_of_le_of_lt hge hlt));exact h _ _ _ ctv _ _ (Sub.put gc) ⟨c',oc,vs,t,rfl,put_self ..,hd,hv⟩ hgs (S₁.kp.fresh (Nat.le_refl _)) (S₁.alloc _ tk)
 |some cv=>
  refine gq λ_ z6=>?_;obtain ⟨c,oc,vs,t,e1,e2,e3,e4⟩:=hT _ _ hf;refine z6 ?_;refine kla_makeFunctionHit (mg:=B.mg) hcl hg0 (B.g _ S.ov) hcode (B.c1 _ S.ov) hP T hf (S.builtinsAt B.h1) λctv h' tk hk hsz=>?_;have S₁:=S.grow hk tk;exact h _ _ _ ctv _ _ Sub.rfl ⟨c,oc,vs,t,e1,e2,e3,e4⟩ (S₁.kp.fresh (Nat.le_refl _)) (S₁.kp.fresh (Nat.le_refl _)) (S₁.alloc _ tk)
theorem call_lam {k:Nat} {R:Result->Shared->Prop} {qual:Str} {params:Arguments} {body:Expr} {scope:Scope} {cl:List (Str×Addr)} {pm cdv ct:Value} {od:Option Addr} {sl:Array (Option Value)} {f:Addr} {args:Args} {binds:List (Str×Value)}
  (K:Kp B g s) (hr:Rm A k) (ho:g f=some (fno (lamF qual params body scope cl pm cdv ct) od sl)) (hcd:LamCode g cdv qual)
  (hbind:bindArgs (lamF qual params body scope cl pm cdv ct) args=pure binds) (hloc:(binds.all λx=>decide (scope.names.lookup x.1=some .local))=true)
  (h:∀ L s' E',St B L (λy=>binds.reverse.lookup y) g s'->wpAny (model PG w) (A.deeper (envX qual scope L f cdv cl)) (eval body (envX qual scope L f cdv cl)) (λv s'=>R (.ok (.ret v)) s') E' s')
  (hcell:∀ x∈scope.names,x.2≠.cell:=by decide) (hco:scope.isCoroutine=false:=by rfl) (hgen:scope.isGenerator=false:=by rfl) (hk:scope.kind=.function:=by rfl):codeAny (model PG w) A (.call (.ref f) args) R s:=by
 have hdep:A.depth < recursionLimit:=by have:=hr.d;show A.depth < 1000;exact om0 this
 have hz:=K.size;refine gq λ_ z7=>?_;obtain ⟨c,oc,vs,t,e1,e2,e3,e4⟩:=hcd;refine z7 ?_;refine kla_callFunE hdep (K.sub _ _ ho) rfl hco hgen rfl ⟨c,oc,vs,t,e1,K.sub _ _ e2,e3,e4⟩ ?_;rw [hbind];refine wpAny_pure (wpAny_newFunctionEnv hcell (locs hloc) (λh₁ hns hsb=>?_) hk);have hk₁:∀ b o,s.heap.get? b=some o->h₁.get? b=some o:=λb o e=>hsb.extBut b o (Nat.ne_of_lt (Heap.lt_size e)) (Heap.get?_push_of_some _ e);refine ⟨(B.nolimit _ K.ov).fresh _ hsb,?_⟩;exact kla_codeExpr (h _ _ _ ⟨K.grow hk₁ _,hns,K.fresh (Nat.le_refl _),K.freshB (Nat.le_refl _),Nat.ne_of_gt hz.1,Nat.ne_of_gt hz.2⟩)
end
section
variable {w:World} {B:Bs w} {A:Around} {L:Addr} {m m':Str->Option Value} {g:PH} {s:Shared} {env:Env} {E:Value->Shared->Prop} {pl:Sem Bool}
theorem x_setAttr {o:Expr} {attr:Str} {p' pos:Pos} {value:Expr} {rest:List Stmt} {Q:Flow->Shared->Prop}
  (h:wpAny (model PG w) A (eval value env) (λv s₁=>wpAny (model PG w) A (eval o env) (λov s₂=>wpAny (model PG w) A (setAttr ov attr v) (λ_ s₃=>wpAny (model PG w) A (execs rest env) Q E s₃) E s₂) E s₁) E s)
  (hs:swapsWith value (some (.Attribute o attr p')) pos.line env=pure false:=by with_unfolding_all rfl):wpAny (model PG w) A (execs (.Assign [.Attribute o attr p'] value pos :: rest) env) Q E s:=
 wpAny_execs_cons (plainObj_wpAny_Assign_Attribute h hs)
theorem x_setItem {o i:Expr} {p' pos:Pos} {value:Expr} {rest:List Stmt} {Q:Flow->Shared->Prop}
  (h:wpAny (model PG w) A (eval value env) (λv s₁=>wpAny (model PG w) A (eval o env) (λov s₂=>wpAny (model PG w) A (eval i env) (λiv s₃=>wpAny (model PG w) A (setItem ov iv v) (λ_ s₄=>wpAny (model PG w) A (execs rest env) Q E s₄) E s₃) E s₂) E s₁) E s)
  (hs:swapsWith value (some (.Subscript o i p')) pos.line env=pure false:=by with_unfolding_all rfl):wpAny (model PG w) A (execs (.Assign [.Subscript o i p'] value pos :: rest) env) Q E s:=
 wpAny_execs_cons (wpAny_Assign_Subscript h hs)
theorem x_assignTo {t:Expr} {pos:Pos} {value:Expr} {rest:List Stmt} {Q:Flow->Shared->Prop}
  (h:wpAny (model PG w) A (eval value env) (λv s₁=>wpAny (model PG w) A (assign t env v) (λ_ s₂=>wpAny (model PG w) A (execs rest env) Q E s₂) E s₁) E s)
  (he:(assignEach [t] env).map (·.2)=[assign t env]:=by with_unfolding_all rfl) (hs:swapsWithSole [t] value pos.line env=pure false:=by with_unfolding_all rfl) (hw:swappedStores [t] value env=pure none:=by with_unfolding_all rfl) :
  wpAny (model PG w) A (execs (.Assign [t] value pos :: rest) env) Q E s:=by
 refine wpAny_execs_cons (wpAny_Assign_stores (wpAny_mono h (λv s₁ h₁=>?_) λ_ _ x=>x) hs hw);rw [he];exact h₁
theorem a_name {x:Str} {pos:Pos} {v:Value} {Q:Unit->Shared->Prop} (h:wpAny (model PG w) A (storeName env x v) Q E s):wpAny (model PG w) A (assign (.Name x pos) env v) Q E s:=wpAny_assign_Name h
theorem ai_nil {Q:Unit->Shared->Prop} (h:Q () s):wpAny (model PG w) A (assignInOrder [] []) Q E s:=wpAny_pure h
theorem ai_cons {f:Value->Sem Unit} {fs:List (Value->Sem Unit)} {v:Value} {vs:List Value} {Q:Unit->Shared->Prop} (h:wpAny (model PG w) A (f v) (λ_ s₁=>wpAny (model PG w) A (assignInOrder fs vs) Q E s₁) E s) :
  wpAny (model PG w) A (assignInOrder (f :: fs) (v :: vs)) Q E s:=by
 exact wpAny_bind (wpAny_holding h)
theorem a_tuple {elts:List Expr} {k:Nat} {pos:Pos} {t:Addr} {vs:List Value} {Q:Unit->Shared->Prop} (S:St B L m g s) (hh:A.handled=none) (ht:s.heap.IsTuple t vs.toArray)
  (h:∀ s',St B L m g s'->wpAny (model PG w) A (assignInOrder ((assignEach elts env).map (·.2)) vs) Q E s')
  (hn:(assignEach elts env).length=vs.length:=by rfl) (hstar:(assignEach elts env).findIdx? (·.1)=none:=by rfl) :
  wpAny (model PG w) A (assign (.Tuple elts k pos) env (.ref t)) Q E s:=
 wpAny_assign_Tuple hh ht (by rw [hn];simp) hstar λh' hx=>h _ (S.grow (λb o e=>hx b o (Nat.ne_of_lt (Heap.lt_size e)) e) s.toks)
theorem r_list {elts:List Expr} {pos:Pos} {Q:Value->Shared->Prop}
  (h:wpAny (model PG w) A (spliced (backTo pos (starEach elts env))) (λvs s₁=>wpAny (model PG w) A (newList vs) Q E s₁) E s):wpAny (model PG w) A (eval (.List elts pos) env) Q E s:=List_ h
theorem r_tuple {elts:List Expr} {k:Nat} {pos:Pos} {Q:Value->Shared->Prop}
  (h:wpAny (model PG w) A (spliced (backTo pos (starEach elts env))) (λvs s₁=>wpAny (model PG w) A (newTuple vs) Q E s₁) E s):wpAny (model PG w) A (eval (.Tuple elts k pos) env) Q E s:=Tuple_ h
theorem n_list {vs:List Value} {Q:Value->Shared->Prop} (S:St B L m g s) (h:∀ s' l o',OL vs o'->g l=none->B.base l=none->l≠L->St B L m (put g l o') s'->Q (.ref l) s') (hsz:vs.length≤sizeLine:=by size_fits):wpAny (model PG w) A (newList vs) Q E s:=
 wpAny_newList (h _ _ _ ⟨0,rfl⟩ (S.kp.fresh (Nat.le_refl _)) (S.kp.freshB (Nat.le_refl _)) (Nat.ne_of_gt S.ns.lt) (S.alloc _ s.toks)) hsz
theorem n_tuple {vs:List Value} {Q:Value->Shared->Prop} (S:St B L m g s) (h:∀ s' l,s'.heap.IsTuple l vs.toArray->St B L m g s'->Q (.ref l) s') (hsz:vs.length≤sizeLine:=by size_fits):wpAny (model PG w) A (newTuple vs) Q E s:=
 wpAny_newTuple (h _ _ ⟨_,Heap.get?_push_size _ rfl,rfl,0,rfl⟩ (S.push _ s.toks)) hsz
theorem n_tupleK {vs:List Value} {Q:Value->Shared->Prop} (S:St B L m g s) (h:∀ s' l o',OT vs o'->g l=none->B.base l=none->l≠L->St B L m (put g l o') s'->Q (.ref l) s') (hsz:vs.length≤sizeLine:=by size_fits):wpAny (model PG w) A (newTuple vs) Q E s:=
 wpAny_newTuple (h _ _ _ ⟨rfl,0,rfl⟩ (S.kp.fresh (Nat.le_refl _)) (S.kp.freshB (Nat.le_refl _)) (Nat.ne_of_gt S.ns.lt) (S.alloc _ s.toks)) hsz
end
noncomputable def lamAt (w:World) (f:Addr) (i:Nat):Option (Arguments×Expr×Scope):=
 match (HF w).lookup f with
 |some ⟨_,_,.func fd,_⟩=>
  match fd.body with
  |.stmts b=>
   match b[i]? with
   |some (.Assign _ (.Lambda p e sc _) _)=>some (p,e,sc)
   |_=>none
  |_=>none
 |_=>none
noncomputable def LamO (w:World) (fdef:Addr) (i:Nat) (q:Str) (cl:List (Str×Addr)) (g:PH) (f:Addr):Prop:=
 Ex6 λp e sc pm cdv ct=>And3 (lamAt w fdef i=some (p,e,sc)) (g f=some (fno (lamF q p e sc cl pm cdv ct) none #[])) (LamCode g cdv q)
noncomputable def Lists (g:PH) (X:List Addr):Prop:=∀ x∈X,Ex2 λvs o=>g x=some o∧OL vs o
theorem Lists.one {g:PH} {a:Addr} {vs:List Value} {o:Obj} (h:g a=some o) (x:OL vs o):Lists g [a]:=λb hb=>by
 cases List.mem_singleton.mp hb;exact ⟨vs,o,h,x⟩
theorem Lists.not {g:PH} {X:List Addr} (h:Lists g X) {a:Addr} {o:Obj} (e:g a=some o) (ho:o.cls≠.type "list"):a∉X:=λha=>by
 obtain ⟨vs,o',e',x⟩:=h a ha;rw [e] at e';cases e';exact ho x.cls
theorem Lists.code {g:PH} {X:List Addr} (h:Lists g X):∀ x∈X,∃ o,g x=some o∧¬ CD o:=λx hx=>let ⟨_,o,e,y⟩:=h x hx;⟨o,e,y.code⟩
theorem LamO.chg {w:World} {fdef:Addr} {i:Nat} {q:Str} {cl:List (Str×Addr)} {g g':PH} {f:Addr} {X:List Addr} (h:LamO w fdef i q cl g f) (k:Chg X g g') (hX:Lists g X):LamO w fdef i q cl g' f:=by
 obtain ⟨p,e,sc,pm,cdv,ct,h1,h2,h3⟩:=h;exact ⟨p,e,sc,pm,cdv,ct,h1,k _ _ (hX.not h2 (λe=>absurd (Value.type.inj e) (by decide))) h2,h3.chg k hX.code⟩
section
variable {w:World} {B:Bs w} {A:Around} {L:Addr} {m m':Str->Option Value} {g:PH} {s:Shared} {env:Env} {E:Value->Shared->Prop} {pl:Sem Bool}
theorem LamO.call {fdef:Addr} {i:Nat} {k:Nat} {R:Result->Shared->Prop} {qual:Str} {params:Arguments} {body:Expr} {scope:Scope} {cl:List (Str×Addr)} {f:Addr} {args:Args} {binds:List (Str×Value)}
  (x:LamO w fdef i qual cl g f) (K:Kp B g s) (hr:Rm A k) (hl:lamAt w fdef i=some (params,body,scope))
  (hbind:∀ pm cdv ct,bindArgs (lamF qual params body scope cl pm cdv ct) args=pure binds) (hloc:(binds.all λx=>decide (scope.names.lookup x.1=some .local))=true)
  (h:∀ L s' E' cdv,St B L (λy=>binds.reverse.lookup y) g s'->wpAny (model PG w) (A.deeper (envX qual scope L f cdv cl)) (eval body (envX qual scope L f cdv cl)) (λv s'=>R (.ok (.ret v)) s') E' s')
  (hcell:∀ x∈scope.names,x.2≠.cell:=by decide) (hco:scope.isCoroutine=false:=by rfl) (hgen:scope.isGenerator=false:=by rfl) (hk:scope.kind=.function:=by rfl):codeAny (model PG w) A (.call (.ref f) args) R s:=by
 obtain ⟨p,e,sc,pm,cdv,ct,h1,h2,h3⟩:=x;rw [hl] at h1;cases h1;exact call_lam K hr h2 h3 (hbind _ _ _) hloc (λL s' E'=>h L s' E' cdv) hcell hco hgen hk
end
noncomputable def sPath:Str:=Str.ofString "path"
noncomputable def sRow:Str:=Str.ofString "row"
noncomputable def sMk:Str:=Str.ofString "makeelement"
noncomputable def sAp:Str:=Str.ofString "append"
noncomputable def qThing:Str:=Str.ofString "_law_thing.<locals>.<lambda>"
structure ThingX (w:World) (g:PH) (f rl:Addr) (p:Str) (row:List Str) (fd:FuncData) (d:Addr) (od orow oc1 oc2:Obj) (vs:List Value) (mA:Str->Option Value) (f1 f2 c1 c2:Addr) (t t':Tok):Prop where
 f_:g f=some (fno fd (some d) #[])
 d_:g d=some od
 oa_:OA [sPath,sRow,sMk,sAp] mA od
 path_:mA sPath=some (.str p t)
 row_:mA sRow=some (.ref rl)
 mkv_:mA sMk=some (.ref f1)
 apv_:mA sAp=some (.ref f2)
 rl_:g rl=some orow
 ol_:OL vs orow
 vs_:StrsAre vs row
 l1_:LamO w 298 3 qThing [(sPath,c1)] g f1
 l2_:LamO w 298 4 qThing [(Str.ofString "thing",c2)] g f2
 c1_:g c1=some oc1
 d1_:oc1.data=.cell (some (.str p t'))
 c2_:g c2=some oc2
 d2_:oc2.data=.cell (some (.ref f))
noncomputable def Thing (w:World) (g:PH) (f rl d:Addr) (p:Str) (row:List Str):Prop:=Ex13 λfd od orow oc1 oc2 vs mA f1 f2 c1 c2 t t'=>ThingX w g f rl p row fd d od orow oc1 oc2 vs mA f1 f2 c1 c2 t t'
theorem not_list {o:Obj} {v:Option Value} (h:o.data=.cell v) {vs:List Value}:¬ OL vs o:=by rintro ⟨n,rfl⟩;cases h
theorem Lists.notC {g:PH} {X:List Addr} (h:Lists g X) {a:Addr} {o:Obj} {v:Option Value} (e:g a=some o) (ho:o.data=.cell v):a∉X:=λha=>by
 obtain ⟨vs,o',e',x⟩:=h a ha;rw [e] at e';cases e';exact not_list ho x
theorem OA.cls {ks:List Str} {mA:Str->Option Value} {o:Obj} (h:OA ks mA o):o.cls=.type "dict":=by obtain ⟨es,n,rfl,_⟩:=h;rfl
theorem Thing.move {w:World} {g g':PH} {f rl d:Addr} {p:Str} {row row':List Str} {X:List Addr} {vs':List Value} {o':Obj} (h:Thing w g f rl d p row) (k:Chg X g g') (hX:Lists g X) (hr:g' rl=some o') (ol:OL vs' o') (hv:StrsAre vs' row'):Thing w g' f rl d p row':=by
 obtain ⟨fd,od,orow,oc1,oc2,vs,mA,f1,f2,c1,c2,t,t',x⟩:=h;have fn:∀ {s:String},s≠"list"->Value.type s≠Value.type "list":=λh e=>h (Value.type.inj e);refine ⟨fd,od,o',oc1,oc2,vs',mA,f1,f2,c1,c2,t,t',k _ _ (hX.not x.f_ (fn (by decide))) x.f_,k _ _ (hX.not x.d_ ?_) x.d_,x.oa_,x.path_,x.row_,x.mkv_,x.apv_,hr,ol,hv,x.l1_.chg k hX,x.l2_.chg k hX,k _ _ (hX.notC x.c1_ x.d1_) x.c1_,x.d1_,k _ _ (hX.notC x.c2_ x.d2_) x.c2_,x.d2_⟩;rw [x.oa_.cls];exact fn (by decide)
theorem Thing.chg {w:World} {g g':PH} {f rl d:Addr} {p:Str} {row:List Str} {X:List Addr} (h:Thing w g f rl d p row) (k:Chg X g g') (hX:Lists g X) (hn:rl∉X):Thing w g' f rl d p row:=by
 obtain ⟨fd,od,orow,oc1,oc2,vs,mA,f1,f2,c1,c2,t,t',x⟩:=id h;exact h.move k hX (k _ _ hn x.rl_) x.ol_ x.vs_
theorem Thing.sub {w:World} {g g':PH} {f rl d:Addr} {p:Str} {row:List Str} (h:Thing w g f rl d p row) (k:Sub g g'):Thing w g' f rl d p row:=h.chg (X:=[]) k.chg (λ_ h=>by cases h) (by simp)
theorem Thing.chgD {w:World} {g g':PH} {f rl d:Addr} {p:Str} {row:List Str} {x:Addr} {o:Obj} (h:Thing w g f rl d p row) (k:Chg [x] g g') (hx:g x=some o) (hc:o.cls=.type "dict") (hf:∃ es n,o.data=.dict es n) (hd:d≠x):Thing w g' f rl d p row:=by
 obtain ⟨fd,od,orow,oc1,oc2,vs,mA,f1,f2,c1,c2,t,t',y⟩:=h;obtain ⟨es,n,hf⟩:=hf;have no:∀ {a:Addr} {o':Obj},g a=some o'->o'.data≠o.data->g' a=some o':=λe hn=>k _ _ (λha=>by cases List.mem_singleton.mp ha;rw [hx] at e;cases e;exact hn rfl) e;have fn:∀ {a:Addr} {fd':FuncData} {dd sl},g a=some (fno fd' dd sl)->g' a=some (fno fd' dd sl):=λe=>no e (by rw [hf];intro e;cases e);have cc:∀ {a:Addr} {o':Obj} {v},g a=some o'->o'.data=.cell v->g' a=some o':=λe h=>no e (by rw [hf,h];intro e;cases e)
 have lm:∀ {i q cl f},LamO w 298 i q cl g f->LamO w 298 i q cl g' f:=λ⟨p,e,sc,pm,cdv,ct,h1,h2,h3⟩=>
  ⟨p,e,sc,pm,cdv,ct,h1,fn h2,h3.chg k λb hb=>⟨o,by cases List.mem_singleton.mp hb;exact hx,by rintro ⟨vs,e⟩;rw [hf] at e;cases e⟩⟩
 exact ⟨fd,od,orow,oc1,oc2,vs,mA,f1,f2,c1,c2,t,t',fn y.f_,k _ _ (by simpa using hd) y.d_,y.oa_,y.path_,y.row_,y.mkv_,y.apv_,no y.rl_ (by obtain ⟨n',e⟩:=y.ol_;rw [e,hf];intro e;cases e),y.ol_,y.vs_,lm y.l1_,lm y.l2_,cc y.c1_ y.d1_,y.d1_,cc y.c2_ y.d2_,y.d2_⟩
section
variable {w:World} {B:Bs w} {A:Around} {L:Addr} {m m':Str->Option Value} {g:PH} {s:Shared} {env:Env} {E:Value->Shared->Prop} {pl:Sem Bool}
theorem ne_none {g:PH} {a b:Addr} {o:Obj} (h:g a=some o) (k:g b=none):a≠b:=by rintro rfl;rw [h] at k;cases k
theorem LamO.chgD {fdef:Addr} {i:Nat} {q:Str} {cl:List (Str×Addr)} {g g':PH} {f d:Addr} {od:Obj} {ks:List Str} {mA:Str->Option Value} (h:LamO w fdef i q cl g f) (k:Chg [d] g g') (hd:g d=some od) (oa:OA ks mA od):LamO w fdef i q cl g' f:=by
 obtain ⟨p,e,sc,pm,cdv,ct,h1,h2,h3⟩:=h;refine ⟨p,e,sc,pm,cdv,ct,h1,k _ _ (λh=>?_) h2,h3.chg k λx hx=>⟨od,by cases List.mem_singleton.mp hx;exact hd,oa.code⟩⟩;cases List.mem_singleton.mp h;rw [hd] at h2;cases h2;exact absurd oa.cls (λe=>absurd (Value.type.inj e) (by decide))
theorem LamO.sub {fdef:Addr} {i:Nat} {q:Str} {cl:List (Str×Addr)} {g g':PH} {f:Addr} (h:LamO w fdef i q cl g f) (k:Sub g g'):LamO w fdef i q cl g' f:=h.chg (X:=[]) k.chg (λ_ h=>by cases h)
theorem fn_path:typeLookup (.type "function") sPath=pure none:=by rw [typeLookup_type,builtinLookup_eq_fast];kernel_rfl
theorem fn_row:typeLookup (.type "function") sRow=pure none:=by rw [typeLookup_type,builtinLookup_eq_fast];kernel_rfl
theorem fn_mk:typeLookup (.type "function") sMk=pure none:=by rw [typeLookup_type,builtinLookup_eq_fast];kernel_rfl
theorem fn_ap:typeLookup (.type "function") sAp=pure none:=by rw [typeLookup_type,builtinLookup_eq_fast];kernel_rfl
theorem fn_ga:typeLookup (.type "function") "__getattr__"=pure none:=by rw [typeLookup_type,builtinLookup_eq_fast];kernel_rfl
theorem r_lamT (i:Nat) {params:Arguments} {body:Expr} {scope:Scope} {pos:Pos} {clos:List (Str×Addr)} {Q:Value->Shared->Prop} (S:St B L m g s) (hl:lamAt w 298 i=some (params,body,scope))
  (h:∀ s' f g' fd,Sub g g'->LamO w 298 i qThing clos g' f->g' f=some (fno fd none #[])->g f=none->St B L m g' s'->Q (.ref f) s')
  (hcl:closureFor scope env=pure clos:=by rfl) (hcode:env.code=.ref 297:=by rfl) (hg0:env.globals=mainGlobals:=by rfl) (hdef:defaultsOf params env=([],[]):=by rfl)
  (hq:env.qual ++ "<lambda>"=qThing:=by rfl):wpAny (model PG w) A (eval (.Lambda params body scope pos) env) Q E s:=by
 refine r_lam_thing S (λs' f cdv ct pm g' sub lc nf nf' S'=>?_) hcl hcode hg0 hdef hq;rw [hq] at lc S';refine h _ _ _ _ (sub.trans (Sub.put nf')) ⟨params,body,scope,pm,cdv,ct,hl,put_self ..,lc.sub (Sub.put nf')⟩ (put_self ..) nf S'
theorem sp_thing {p:Str} {t:Tok} (K:Kp B g s) (hr:Rm A 3):codeAny (model PG w) A (.call (.ref 298) ⟨[.str p t],[]⟩)
  (λr s'=>Ex4 λf rl d g'=>And7 (r=.ok (.ret (.ref f))) (Kp B g' s') (Sub g g') (g f=none) (g rl=none) (g d=none) (Thing w g' f rl d p [p])) s:=by
 refine call_cells (binds:=[(sPath,.str p t)]) K hr (by rfl) (by kernel_rfl) (by rfl) (m1 (.inr ⟨by rfl,by rfl⟩)) λL s₁ E S c=>?_;refine in_AV (P:=λa v=>wpAny _ a (execs _ v) _ _ _) hr λA hr hA=>?_;intro ev;refine gq λ_ z1=>?_;obtain ⟨⟨o1,e1,d1⟩,n1,b1,l1,u1,v1⟩:=c sPath (L + 1) (by rfl);obtain ⟨⟨o2,e2,d2⟩,n2,b2,l2,u2,v2⟩:=c (Str.ofString "thing") (L + 2) (by rfl);refine z1 ?_;have d1:o1.data=.cell (some (.str p t)):=d1;have d2:o2.data=.cell none:=d2;have S₁:=S.take e1 b1 l1 u1 v1;have S₂:=S₁.take e2 b2 l2 u2 v2;clear S S₁ c;have n2':put g (L + 1) o1 (L + 2)=none:=(put_ne (by simp)).trans n2;refine x_assign ?_;refine r_lamT 0 S₂ (by rfl) λs₂ f g₂ fd sub₂ _ gf₂ nf S₃=>?_;have sub0:Sub g g₂:=(Sub.put n1).trans ((Sub.put n2').trans sub₂);have ngf:g f=none:=by cases q:g f with|none=>rfl|some x=>exact absurd nf (by rw [((Sub.put n1).trans (Sub.put n2')) _ _ q];simp)
 have c1:g₂ (L + 1)=some o1:=sub₂ _ _ ((put_ne (by simp)).trans (put_self ..));have c2:g₂ (L + 2)=some o2:=sub₂ _ _ (put_self ..);clear S₂ e1 e2;refine r_storeCell S₃ c2 d2 λs₃ o2' d2' S₄=>?_;have Nf:(L + 2)≠f:=by rintro e;rw [e,gf₂] at c2;cases c2;cases d2
 refine x_setAttr ?_;refine r_cell S₄ (c:=L + 1) (by rfl) ⟨o1,.inl ((put_ne (by simp)).trans c1),d1⟩ ?_;refine r_cell S₄ (c:=L + 2) (by rfl) ⟨o2',.inl (put_self ..),d2'⟩ ?_;refine fa_new S₄ ((put_ne Nf.symm).trans gf₂) fn_path λs₄ d od oa nd nfd S₅=>?_
 have nd₂:g₂ d=none:=by
  cases q:g₂ d with
  |none=>rfl
  |some x=>rw [put_ne (by rintro rfl;simp at nd),q] at nd;cases nd
 have ngd:g d=none:=by cases q:g d with|none=>rfl|some x=>exact absurd nd₂ (by rw [sub0 _ _ q];simp)
 obtain ⟨G,hG⟩:∃ G,G=put (put (put g₂ (L + 2) o2') d od) f (fno fd (some d) #[]):=⟨_,rfl⟩;rw [<-hG] at S₅;have Nf1:(L + 1)≠f:=by rintro e;rw [e,gf₂] at c1;cases c1;cases d1
 have c1:G (L + 1)=some o1:=by rw [hG,put_ne Nf1,put_ne (ne_none c1 nd₂),put_ne (by simp)];exact c1
 have c2:G (L + 2)=some o2':=by rw [hG,put_ne Nf,put_ne (ne_none c2 nd₂)];exact put_self ..
 have gf:G f=some (fno fd (some d) #[]):=by rw [hG];exact put_self ..
 have gd:G d=some od:=by rw [hG,put_ne nfd.symm];exact put_self ..
 have sub1:Sub g G:=λb o e=>by
  rw [hG,put_ne (ne_none e ngf),put_ne (ne_none e ngd),put_ne (ne_none e n2)];exact sub0 _ _ e
 clear hG S₄ S₃ nd₂ nd sub0 sub₂ nf gf₂;refine x_setAttr ?_;walk_at "J";refine r_cell S₅ (c:=L + 1) (by rfl) ⟨o1,.inl c1,d1⟩ ?_;walk_at "J";refine n_list S₅ λs₆ rl ol hol nl _ _ S₆=>?_;walk_at "J";have sub2:Sub G (put G rl ol):=Sub.put nl;refine r_cell S₆ (c:=L + 2) (by rfl) ⟨o2',.inl (sub2 _ _ c2),d2'⟩ ?_;refine fa_set S₆ (sub2 _ _ gf) (sub2 _ _ gd) oa (by decide) fn_row λs₇ od' oa' S₇=>?_;obtain ⟨G',hG⟩:∃ G',G'=put (put G rl ol) d od':=⟨_,rfl⟩;rw [<-hG] at S₇;have Nd2:(L + 2)≠d:=by rintro e;rw [e,gd] at c2;cases c2;obtain ⟨_,_,e,_⟩:=oa;rw [e] at d2';cases d2'
 have Nd1:(L + 1)≠d:=by rintro e;rw [e,gd] at c1;cases c1;obtain ⟨_,_,e,_⟩:=oa;rw [e] at d1;cases d1
 have c1':G' (L + 1)=some o1:=by rw [hG,put_ne Nd1];exact sub2 _ _ c1
 have c2':G' (L + 2)=some o2':=by rw [hG,put_ne Nd2];exact sub2 _ _ c2
 have gf':G' f=some (fno fd (some d) #[]):=by rw [hG,put_ne nfd];exact sub2 _ _ gf
 have gd':G' d=some od':=by rw [hG];exact put_self ..
 have gl':G' rl=some ol:=by rw [hG,put_ne (ne_none gd nl).symm];exact put_self ..
 have ngl:g rl=none:=by cases q:g rl with|none=>rfl|some x=>exact absurd nl (by rw [sub1 _ _ q];simp)
 have sub3:Sub g G':=λb o e=>by rw [hG,put_ne (ne_none e ngd)];exact sub2 _ _ (sub1 _ _ e)
 clear hG S₆ S₅ sub2 sub1 c1 c2 gf gd oa nl;refine x_setAttr ?_;refine r_lamT 3 S₇ (by rfl) λs₈ f1 G₁ fd1 sub4 lm1 gf1 nf1 S₈=>?_;refine r_cell S₈ (c:=L + 2) (by rfl) ⟨o2',.inl (sub4 _ _ c2'),d2'⟩ ?_;refine fa_set S₈ (sub4 _ _ gf') (sub4 _ _ gd') oa' (by decide) fn_mk λs₉ od₂ oa₂ S₉=>?_;obtain ⟨G2,hG⟩:∃ G',G'=put G₁ d od₂:=⟨_,rfl⟩;rw [<-hG] at S₉;have ch:Chg [d] G₁ G2:=by rw [hG];exact Chg.put (by simp)
 have no:∀ {x o},G' x=some o->x≠d->G2 x=some o:=λe h=>ch _ _ (by simpa using h) (sub4 _ _ e);have c1₂:=no c1' Nd1;have c2₂:=no c2' Nd2;have gf₂:=no gf' nfd;have gd₂:G2 d=some od₂:=by rw [hG];exact put_self ..
 have gl₂:=no gl' (by rintro e;rw [e,gd'] at gl';cases gl';exact absurd hol.cls (by rw [oa'.cls];intro e;exact absurd (Value.type.inj e) (by decide)));have lm1:=lm1.chgD ch (sub4 _ _ gd') oa';have sub5:Sub g G2:=λb o e=>no (sub3 _ _ e) (ne_none e ngd);have f1d:f1≠d:=(ne_none gd' nf1).symm;clear hG ch no sub4 S₈ S₇ sub3 c1' c2' gf' gd' gl' gf1 nf1;refine x_setAttr ?_;refine r_lamT 4 S₉ (by rfl) λs₁₀ f2 G₃ fd2 sub6 lm2 gf2 nf2 S₁₀=>?_;refine r_cell S₁₀ (c:=L + 2) (by rfl) ⟨o2',.inl (sub6 _ _ c2₂),d2'⟩ ?_;refine fa_set S₁₀ (sub6 _ _ gf₂) (sub6 _ _ gd₂) oa₂ (by decide) fn_ap λs₁₁ od₃ oa₃ S₁₁=>?_;obtain ⟨G4,hG⟩:∃ G',G'=put G₃ d od₃:=⟨_,rfl⟩;rw [<-hG] at S₁₁;have ch:Chg [d] G₃ G4:=by rw [hG];exact Chg.put (by simp)
 have no:∀ {x o},G2 x=some o->x≠d->G4 x=some o:=λe h=>ch _ _ (by simpa using h) (sub6 _ _ e);have gd₄:G4 d=some od₃:=by rw [hG];exact put_self ..
 have lm1:=(lm1.sub sub6).chgD ch (sub6 _ _ gd₂) oa₂;have lm2:=lm2.chgD ch (sub6 _ _ gd₂) oa₂;refine x_ret ?_;refine r_cell S₁₁ (c:=L + 2) (by rfl) ⟨o2',.inl (no c2₂ Nd2),d2'⟩ ?_
 refine ⟨f,rl,d,G4,rfl,S₁₁.kp,λb o e=>no (sub5 _ _ e) (ne_none e ngd),ngf,ngl,ngd,fd,od₃,ol,o1,o2',[.str p t],_,f1,f2,L + 1,L + 2,t,t,
  no gf₂ nfd,gd₄,oa₃,by rfl,by rfl,by rfl,by rfl,no gl₂ ?_,hol,.cons _ _ .nil,lm1,lm2,no c1₂ Nd1,d1,no c2₂ Nd2,d2'⟩
 rintro rfl;rw [gd₂] at gl₂;cases gl₂;exact absurd hol.cls (by rw [oa₂.cls];intro e;exact absurd (Value.type.inj e) (by decide))
end
noncomputable def Le {w:World} (B B':Bs w):Prop:=∀ b o,B.base b=some o->B'.base b=some o
theorem Le.trans {w:World} {B B' B'':Bs w} (h:Le B B') (k:Le B' B''):Le B B'':=λ_ _ e=>k _ _ (h _ _ e)
noncomputable def Opens {w:World} (B:Bs w) (A:Around) (L:Addr) (m:Str->Option Value) (g:PH) (s:Shared) (x:Value) (n:Nat) (P:Nat->Value->Prop) (keep:List Addr):Prop:=
 ∀ (Q:Value->Shared->Prop) (E:Value->Shared->Prop),(∀ s' I fp wr hd Si,St B L m g s'->Walks PG w A I fp wr n P Si->(∀ i h,Si i h->∀ b∈wr,∃ o,h.get? b=some o)->Away B L g hd s'.heap->(∀ b∈wr,b∈hd)->Si 0 s'.heap ->
  (∀ b∈fp,b∉hd->(∃ o,B.base b=some (.ex o))∨(b∈keep∧∃ o,g b=some o))->Q (.ref I) s')->wpAny (model PG w) A (pyIter x) Q E s
section
variable {w:World} {B:Bs w} {A:Around} {L:Addr} {m m':Str->Option Value} {g:PH} {s:Shared} {env:Env} {E:Value->Shared->Prop} {pl:Sem Bool}
theorem Away.push {hd:List Addr} (a:Away B L g hd s.heap) (S:St B L m g s) (o:Obj) (hf:o.isFreed=false:=by rfl):Away B L g (s.heap.objs.size :: hd) (s.heap.push o):=by
 have hz:=S.kp.size;exact ⟨mc (S.kp.freshB (Nat.le_refl _)) a.base,mc (S.kp.fresh (Nat.le_refl _)) a.g,mc (Nat.ne_of_gt S.ns.lt) a.L,mc (Nat.ne_of_gt hz.1) a.t1,mc (Nat.ne_of_gt hz.2) a.t2,mc ⟨o,Heap.get?_push_size _ hf⟩ λb hb=>(a.is b hb).imp λ_=>Heap.get?_push_of_some _⟩
theorem Away.nil {h:Heap}:Away B L g [] h:=⟨mn,mn,mn,mn,mn,mn⟩
theorem keep1 {g g':PH} {a:Addr} {o:Obj} (h:g a=some o) (k:g' a=some o):∀ b∈[a],∀ o',g b=some o'->g' b=some o':=m1 λ_ e=>k.trans (h.symm.trans e)
theorem Away.one {D:Addr} {h:Heap} (h1:B.base D=none) (h2:g D=none) (h3:D≠L) (h4:D≠321) (h5:D≠293) (h6:∃ o,h.get? D=some o):Away B L g [D] h:=⟨m1 h1,m1 h2,m1 h3,m1 h4,m1 h5,m1 h6⟩
theorem Away.put1 {C D:Addr} {o:Obj} {h:Heap} (a:Away B L g [C] h) (n:D≠C):Away B L (put g D o) [C] h:=⟨a.base,m1 ((put_ne n.symm).trans (a.g _ (.head _))),a.L,a.t1,a.t2,a.is⟩
theorem St.isL (S:St B L m g s):∃ o,s.heap.get? L=some o:=S.ns.imp λ_ h=>h.elim λ_ h=>h.elim λ_ h=>h.1
theorem own1 {It l:Addr} {o:Obj} (h:Has B g l o):∀ b∈[It,l],b∉[It]->(∃ o,B.base b=some (.ex o))∨(b∈[l]∧∃ o,g b=some o):=
 mc (λn=>absurd (.head _) n) (m1 λ_=>h.elim (λh=>.inr ⟨.head _,o,h⟩) λh=>.inl ⟨o,h⟩)
theorem OL.has {vs:List Value} {l:Addr} {o:Obj} (x:OL vs o) (h:Has B g l o) (K:Kp B g s):s.heap.IsList l vs.toArray:=x.isList (h.get K)
theorem O_list {l:Addr} {vs:List Value} {o:Obj} (S:St B L m g s) (hh:A.handled=none) (h:Has B g l o) (x:OL vs o):Opens B A L m g s (.ref l) vs.length (λi v=>vs[i]?=some v) [l]:=by
 intro Q E hQ;have hl:=x.has h S.kp;have hlt:l≠s.heap.objs.size:=Nat.ne_of_lt (Heap.lt_size (h.get S.kp));refine wpAny_pyIter_list hl ?_;have W:=Walks.list (prog:=PG) (w:=w) (A:=A) hh s.heap.objs.size l hlt vs.toArray;simp only [List.size_toArray,List.getElem?_toArray] at W;refine hQ _ _ _ _ [s.heap.objs.size] _ (S.push _ s.toks) W (λi h st=>m1 (st.1.imp λ_=>And.left)) (Away.nil.push S _) (λb hb=>hb) ⟨⟨_,Heap.get?_push_size _ rfl,rfl,rfl⟩,hl.push _⟩ (own1 h)
theorem O_listT {l:Addr} {vs:List Value} (S:St B L m g s) (hh:A.handled=none) (hl:s.heap.IsList l vs.toArray) (a:Away B L g [l] s.heap):Opens B A L m g s (.ref l) vs.length (λi v=>vs[i]?=some v) []:=by
 intro Q E hQ;have hlt:l≠s.heap.objs.size:=by obtain ⟨o,ho,_⟩:=hl;exact Nat.ne_of_lt (Heap.lt_size ho)
 refine wpAny_pyIter_list hl ?_;have W:=Walks.list (prog:=PG) (w:=w) (A:=A) hh s.heap.objs.size l hlt vs.toArray;simp only [List.size_toArray,List.getElem?_toArray] at W;refine hQ _ _ _ _ [s.heap.objs.size,l] _ (S.push _ s.toks) W (λi h st=>m1 (st.1.imp λ_=>And.left)) (a.push S _) (m1 (.head _)) ⟨⟨_,Heap.get?_push_size _ rfl,rfl,rfl⟩,hl.push _⟩ (λb hb hn=>absurd hb hn)
theorem O_tuple {l:Addr} {vs:List Value} {o:Obj} (S:St B L m g s) (hh:A.handled=none) (h:Has B g l o) (x:OT vs o):Opens B A L m g s (.ref l) vs.length (λi v=>vs[i]?=some v) [l]:=by
 intro Q E hQ;have hl:s.heap.IsTuple l vs.toArray:=by obtain ⟨a,n,e⟩:=x;exact ⟨o,h.get S.kp,a,n,e⟩
 have hlt:l≠s.heap.objs.size:=Nat.ne_of_lt (Heap.lt_size (h.get S.kp));refine wpAny_pyIter_tuple hl ?_;have W:=Walks.tuple (prog:=PG) (w:=w) (A:=A) hh s.heap.objs.size l hlt vs.toArray;simp only [List.size_toArray,List.getElem?_toArray] at W;refine hQ _ _ _ _ [s.heap.objs.size] _ (S.push _ s.toks) W (λi h st=>m1 (st.1.imp λ_=>And.left)) (Away.nil.push S _) (λb hb=>hb) ⟨⟨_,Heap.get?_push_size _ rfl,rfl,rfl⟩,hl.push _⟩ (own1 h)
theorem O_dict {d:Addr} {kvs:List (Str×Value)} {o:Obj} (S:St B L m g s) (hh:A.handled=none) (hsys:(d == sysModules)=false) (h:Has B g d o) (x:OD w kvs o):Opens B A L m g s (.ref d) kvs.length (λi v=>Ex3 λk x t=>kvs[i]?=some (k,x)∧v=.str k t) [d]:=by
 intro Q E hQ;have hd:=x.dictOf (h.get S.kp)
 obtain ⟨ep,hd⟩:∃ ep,s.heap.DictAt (strKind PG w) d kvs ep:=by
  obtain ⟨o,es,ep,e,a,r1,r2⟩:=hd;exact ⟨ep,o,es,e,a,r1,r2⟩
 have hlt:d≠s.heap.objs.size:=Nat.ne_of_lt (Heap.lt_size (h.get S.kp));refine wpAny_pyIter_dict hsys hd ?_;have W:=Walks.dictKeys (prog:=PG) (w:=w) (A:=A) (knd:=strKind PG w) hh s.heap.objs.size d hlt kvs ep
 have W':Walks PG w A s.heap.objs.size [s.heap.objs.size,d] [s.heap.objs.size] kvs.length (λi v=>Ex3 λk x t=>kvs[i]?=some (k,x)∧v=.str k t) _:={ W with item:=λi s Q E hi st hQ=>W.item i s Q E hi st λv h' tk ⟨k,x,e1,e2⟩=>hQ v h' tk (by
   obtain ⟨t,e⟩:=Value.isStrOf_shape e2;exact ⟨k,x,t,e1,e⟩) }
 refine hQ _ _ _ _ [s.heap.objs.size] _ (S.push _ s.toks) W' (λi h st=>m1 (st.1.imp λ_=>And.left)) (Away.nil.push S _) (λb hb=>hb) ⟨⟨_,Heap.get?_push_size _ rfl,rfl,rfl⟩,hd.at' λo e=>Heap.get?_push_of_some _ e⟩ (own1 h)
structure WG (w:World) (A:Around) (target:Expr) (I:Addr) (fp wr:List Addr) (n:Nat) (P:Nat->Value->Heap->Prop) (St:Nat->Heap->Prop):Prop where
 frame:∀ i h h',St i h->(∀ b∈fp,∀ o,h.get? b=some o->h'.get? b=some o)->St i h'
 item:∀ i (s:Shared) (K:Value->Shared->Prop) (E:Value->Shared->Prop),i < n->St i s.heap ->
  (∀ v h' tk,P i v h'->St (i + 1) h'->(∀ b o,b∉wr->s.heap.get? b=some o->h'.get? b=some o)->K v { s with heap:=h',toks:=tk }) ->
  wpAny (model PG w) A (pyNext (.ref I)) (λr s₁=>match r with|none=>False|some v=>wpAny (model PG w) A (letOwnedTupleGo target (.ref I) v) (λ_ s₂=>K v s₂) E s₁) E s
 done:∀ (s:Shared) (Q:Option Value->Shared->Prop) (E:Value->Shared->Prop),St n s.heap ->
  (∀ h' tk,(∀ b o,b∉wr->s.heap.get? b=some o->h'.get? b=some o)->Q none { s with heap:=h',toks:=tk })->wpAny (model PG w) A (pyNext (.ref I)) Q E s
 self:∀ i (s:Shared) (Q:Value->Shared->Prop) (E:Value->Shared->Prop),St i s.heap->Q (.ref I) s->wpAny (model PG w) A (pyIter (.ref I)) Q E s
theorem WG.of {w:World} {A:Around} {target:Expr} {I:Addr} {fp wr:List Addr} {n:Nat} {P:Nat->Value->Prop} {St:Nat->Heap->Prop} (W:Walks PG w A I fp wr n P St) (hlet:∀ v,letOwnedTupleGo target (.ref I) v=pure ()) :
  WG w A target I fp wr n (λi v _=>P i v) St where
 frame:=W.frame
 item:=λi s K E hi hs hK=>W.item i s _ _ hi hs λv h' tk hP hs' hk=>by
  show wpAny _ _ (letOwnedTupleGo target (.ref I) v) _ _ _;rw [hlet v];exact wpAny_pure (hK v h' tk hP hs' hk)
 done:=W.done
 self:=W.self
theorem WG.ofT {w:World} {A:Around} {elts:List Expr} {k:Nat} {pos:Pos} {I:Addr} {fp wr:List Addr} {n:Nat} {P:Nat->Array Value->Prop} {St:Nat->Heap->Prop} {Mid:Nat->Addr->Heap->Prop} (W:WalksT PG w A I fp wr n P St Mid) :
  WG w A (.Tuple elts k pos) I fp wr n (λi v h=>Ex2 λT vals=>And3 (v=.ref T) (P i vals) (h.IsTuple T vals)) St where
 frame:=W.frame
 item:=λi s K E hi hs hK=>W.item i s _ _ hi hs λT vals h' tk hP _ hT hm hk=>by
  refine W.go elts k pos i T _ _ _ hm λh₂ hs₂ hk₂=>?_;refine hK _ h₂ tk ⟨T,vals,rfl,hP,?_⟩ hs₂ λb o hb e=>hk₂ b o hb (hk b o hb e);obtain ⟨o,ho,r⟩:=hT;exact ⟨o,hk₂ _ _ (W.apart _ _ _ hm) ho,r⟩
 done:=W.done
 self:=W.self
noncomputable def OpensG {w:World} (B:Bs w) (A:Around) (L:Addr) (m:Str->Option Value) (g:PH) (s:Shared) (target:Expr) (x:Value) (n:Nat) (P:Nat->Value->Heap->Prop) (keep:List Addr):Prop:=
 ∀ (Q:Value->Shared->Prop) (E:Value->Shared->Prop),(∀ s' I fp wr hd Si,St B L m g s'->WG w A target I fp wr n P Si->(∀ i h,Si i h->∀ b∈wr,∃ o,h.get? b=some o)->Away B L g hd s'.heap->(∀ b∈wr,b∈hd)->Si 0 s'.heap ->
  (∀ b∈fp,b∉hd->(∃ o,B.base b=some (.ex o))∨(b∈keep∧∃ o,g b=some o))->Q (.ref I) s')->wpAny (model PG w) A (pyIter x) Q E s
theorem Opens.toG {x:Value} {n:Nat} {P:Nat->Value->Prop} {keep:List Addr} {target:Expr} (O:Opens B A L m g s x n P keep) (hlet:(λit v=>letOwnedTupleGo target (.ref it) v)=λit v=>pure ():=by rfl) :
  OpensG B A L m g s target x n (λi v _=>P i v) keep:=λQ E hQ=>
 O Q E λs' I fp wr hd Si S W hex a hw hs hfp=>hQ s' I fp wr hd Si S (.of W (congrFun (congrFun hlet I))) hex a hw hs hfp
theorem for_G {x:Value} {n:Nat} {P:Nat->Value->Heap->Prop} {keep:List Addr} {target:Expr} {body orelse:List Stmt} {R:Result->Shared->Prop} (O:OpensG B A env.locals m g s target x n P keep)
  (I:Nat->(Str->Option Value)->PH->Prop) (D:Option Value->(Str->Option Value)->PH->Prop) (hI:I 0 m g)
  (hkeep:∀ i m' g',I i m' g'->∀ b∈keep,∀ o,g b=some o->g' b=some o)
  (turn:∀ i v m g s (B':Bs w) E',Le B B'->i < n->P i v s.heap->I i m g->St B' env.locals m g s ->
   ∀ R1:Flow->Shared->Prop,(∀ f s,TurnEnd B' env.locals (I (i + 1)) D f s->R1 f s)->wpAny (model PG w) A (assign target env v) (λ_ s=>wpAny (model PG w) A (execs body env) R1 E' s) E' s)
  (done:∀ m g s E',I n m g->St B env.locals m g s->∀ R1:Flow->Shared->Prop,(∀ f s,R (.ok f) s->R1 f s)->wpAny (model PG w) A (execs orelse env) R1 E' s)
  (out:∀ v m g s,D v m g->St B env.locals m g s->R (.ok (match v with|none=>.next|some v=>.ret v)) s) :
  wpAny (model PG w) A (pyIter x) (λit s₂=>codeAny (model PG w) A (.forLoop target it body orelse env) R s₂) E s:=by
 refine O _ _ λs It fp wr hd Si S W hex a hw hs hfp₀=>?_;have hfp:∀ b∈fp,b∉hd->(∃ o,B.base b=some (.ex o))∨∃ o,∀ i m g,I i m g->g b=some o:=λb hb hn=>(hfp₀ b hb hn).imp id λ⟨hk,o,ho⟩=>⟨o,λi m' g' hI'=>hkeep i m' g' hI' b hk o ho⟩;refine codeAny_forLoop_any (λk s=>Ex3 λi m g=>And6 (i≤n) (k=n - i) (I i m g) (St B env.locals m g s) (Away B env.locals g hd s.heap) (Si i s.heap)) ?_ n ⟨0,m,g,Nat.zero_le _,rfl,hI,S,a,hs⟩;rintro k s ⟨i,m,g,hin,rfl,hI,S,a,hs⟩
 by_cases hi:i < n
 ·refine wpAny_mono (W.item i s (λv s₁=>wpAny (model PG w) A (assign target env v) (λ_ s₂=>wpAny (model PG w) A (execs body env) (λf s₃=>match f with
      |.next|.cont=>∃ k',k' < n - i∧Ex3 λj m g=>And6 (j≤n) (k'=n - j) (I j m g) (St B env.locals m g s₃) (Away B env.locals g hd s₃.heap) (Si j s₃.heap)
      |.brk=>R (.ok .next) s₃
      |.ret v=>R (.ok (.ret v)) s₃) (notedBy (model PG w) A env λe s'=>R (.error e) s') s₂) (notedBy (model PG w) A env λe s'=>R (.error e) s') s₁) _ hi hs λv h' tk hP hs' hk=>?_) (λr s₁ h₁=>?_) λ_ _ e=>e
  rotate_left
  ·cases r with
   |none=>exact h₁.elim
   |some v=>exact h₁
  have S₁:=S.moved (a.mono hw) hk tk
  have a₁:Away B env.locals g hd h':=⟨a.base,a.g,a.L,a.t1,a.t2,λb hb=>by
   by_cases hbw:b∈wr
   ·exact hex _ _ hs' b hbw
   ·obtain ⟨o,ho⟩:=a.is b hb;exact ⟨o,hk _ _ hbw ho⟩⟩
  refine gq λ_ z1=>?_;obtain ⟨B',hB,_,S₂,back⟩:=St.hold (s:={ s with heap:=h',toks:=tk }) S₁ a₁;refine z1 ?_;refine wpAny_mono (turn i v m g _ B' _ hB hi hP hI S₂ _ λ_ _ h=>h) (λ_ s₁ h₁=>wpAny_mono h₁ (λf s₂ h₂=>?_) λ_ _ e=>e) λ_ _ e=>e;refine gq λ_ z2=>?_;obtain ⟨m',g',S',h₂⟩:=h₂;obtain ⟨S'',a'',same⟩:=back m' g' s₂ S';refine z2 ?_
  have more:I (i + 1) m' g'->∃ k',k' < n - i∧Ex3 λj m g=>And6 (j≤n) (k'=n - j) (I j m g) (St B env.locals m g s₂) (Away B env.locals g hd s₂.heap) (Si j s₂.heap):=λhI'=>by
   refine ⟨n - (i + 1),by exact Nat.sub_succ_lt_self _ _ ‹_›,i + 1,m',g',hi,rfl,hI',S'',a'',W.frame _ _ _ hs' λb hb o e=>?_⟩
   by_cases hbw:b∈hd
   ·exact (same b hbw).trans e
   ·rcases hfp b hb hbw with ⟨x,hx⟩|⟨x,hx⟩
    ·have:h'.get? b=some x:=S₁.ov _ _ hx;rw [this] at e;cases e;exact S''.ov _ _ hx
    ·have:=S₁.sub (hx _ _ _ hI);rw [this] at e;cases e;exact S''.sub (hx _ _ _ hI')
  cases f with
  |next=>exact more h₂
  |cont=>exact more h₂
  |brk=>exact out none m' g' s₂ h₂ S''
  |ret v=>exact out (some v) m' g' s₂ h₂ S''
 ·have:i=n:=by exact Nat.le_antisymm ‹_› (Nat.le_of_not_lt ‹_›)
  subst this;refine W.done s _ _ hs λh' tk hk=>?_;exact done m g _ _ hI (S.moved (a.mono hw) hk tk) _ λ_ _ h=>h
theorem for_O {x:Value} {n:Nat} {P:Nat->Value->Prop} {keep:List Addr} {target:Expr} {body orelse:List Stmt} {R:Result->Shared->Prop} (O:Opens B A env.locals m g s x n P keep)
  (I:Nat->(Str->Option Value)->PH->Prop) (D:Option Value->(Str->Option Value)->PH->Prop) (hI:I 0 m g)
  (hkeep:∀ i m' g',I i m' g'->∀ b∈keep,∀ o,g b=some o->g' b=some o)
  (turn:∀ i v m g s (B':Bs w) E',Le B B'->i < n->P i v->I i m g->St B' env.locals m g s ->
   ∀ R1:Flow->Shared->Prop,(∀ f s,TurnEnd B' env.locals (I (i + 1)) D f s->R1 f s)->wpAny (model PG w) A (assign target env v) (λ_ s=>wpAny (model PG w) A (execs body env) R1 E' s) E' s)
  (done:∀ m g s E',I n m g->St B env.locals m g s->∀ R1:Flow->Shared->Prop,(∀ f s,R (.ok f) s->R1 f s)->wpAny (model PG w) A (execs orelse env) R1 E' s)
  (out:∀ v m g s,D v m g->St B env.locals m g s->R (.ok (match v with|none=>.next|some v=>.ret v)) s)
  (hlet:(λit v=>letOwnedTupleGo target (.ref it) v)=λit v=>pure ():=by rfl) :
  wpAny (model PG w) A (pyIter x) (λit s₂=>codeAny (model PG w) A (.forLoop target it body orelse env) R s₂) E s:=
 for_G (O.toG hlet) I D hI hkeep turn done out
theorem x_for {target iter:Expr} {body orelse rest:List Stmt} {pos:Pos} {Q:Flow->Shared->Prop}
  (h:∀ R1:Result->Shared->Prop,(∀ r s',(match r with|.ok f=>(match f with|.next=>wpAny (model PG w) A (execs rest env) Q E s'|f=>Q f s')|.error e=>cameBackBy (model PG w) A env E e s')->R1 r s')->wpAny (model PG w) A (eval iter env) (λx s₁=>wpAny (model PG w) A (pyIter x) (λit s₂=>
   codeAny (model PG w) A (.forLoop target it body orelse env) R1 s₂) E s₁) E s)
  (hs:(λx=>foldedSetIterable iter env x)=λx=>pure x:=by with_unfolding_all rfl):wpAny (model PG w) A (execs (.For target iter body orelse pos :: rest) env) Q E s:=
 wpAny_execs_cons (wpAny_For (h _ λ_ _ h=>h) (congrFun hs))
theorem St.callL (S:St B L m g s):∃ (r:PB) (h1:r 321=none) (h2:r 293=none),(∀ b,b≠L->r b=none)∧Kp (B.ext r h1 h2) g s∧∀ s' g',Kp (B.ext r h1 h2) g' s'->St B L m g' s':=by
 obtain ⟨oL,es,ep,hL,hd,hk,hf⟩:=id S.ns;refine ⟨one L (.fr oL),one_none S.o1.symm,one_none S.o2.symm,λb hb=>one_none hb,S.kp.ext _ _ λb o e=>?_,λs' g' K=>?_⟩
 ·obtain ⟨rfl,rfl⟩:=one_some e;exact ⟨⟨oL.slots,hL⟩,S.off⟩
 ·have hb:(B.ext (one L (.fr oL)) (one_none S.o1.symm) (one_none S.o2.symm)).base L=some (.fr oL):=by show extB _ _ _=_;rw [extB_new S.offb];exact one_self
  obtain ⟨sl,hb'⟩:=K.ov _ _ hb;refine ⟨K.unext,⟨_,es,ep,hb',hd,hk,hf⟩,?_,S.offb,S.o1,S.o2⟩;cases q:g' L with
  |none=>rfl
  |some x=>have:=K.dis _ _ q;rw [hb] at this;cases this
end
section
variable {w:World} {B:Bs w} {A:Around} {L:Addr} {m m':Str->Option Value} {g:PH} {s:Shared} {env:Env} {E:Value->Shared->Prop} {pl:Sem Bool}
theorem Kp.alloc (K:Kp B g s) (o:Obj) (tk:Nat) (hf:o.isFreed=false:=by rfl):Kp B (put g s.heap.objs.size o) { s with heap:=s.heap.push o,toks:=tk }:=by
 have hz:=K.size;exact (K.grow (λb x e=>Heap.get?_push_of_some _ e) tk).new (Heap.get?_push_size _ hf) (K.freshB (Nat.le_refl _)) (Nat.ne_of_gt hz.1) (Nat.ne_of_gt hz.2)
theorem x_true {b o:List Stmt} {Q:Flow->Shared->Prop} (h:wpAny (model PG w) A (execs b env) Q E s):wpAny (model PG w) A (execs (if true=true then b else o) env) Q E s:=h
theorem x_false {b o:List Stmt} {Q:Flow->Shared->Prop} (h:wpAny (model PG w) A (execs o env) Q E s):wpAny (model PG w) A (execs (if false=true then b else o) env) Q E s:=h
theorem if_t {c:Prop} [Decidable c] {P Q:Prop} (h:c) (p:P):ite c P Q:=by rw [if_pos h];exact p
theorem if_f {c:Prop} [Decidable c] {P Q:Prop} (h:¬ c) (p:Q):ite c P Q:=by rw [if_neg h];exact p
theorem call_fnB {k:Nat} {R:Result->Shared->Prop} {name qual:Str} {params:Arguments} {body:List Stmt} {scope:Scope} {dV kV doc pm cdv ct oc:Value} {an od:Option Addr} {osl:Array (Option Value)} {f:Addr} {args:Args} (P:List (Str×Value)->PH->Prop)
  (K:Kp B g s) (hr:Rm A k) (ho:(HF w).lookup f=some ⟨oc,od,.func (fnX name qual params body scope [] dV kV doc pm an cdv ct),osl⟩) (hcd:codeIn (HF w) cdv qual=true)
  (hbind:∀ (Q:List (Str×Value)->Shared->Prop) (E:Value->Shared->Prop),(∀ binds g' s',Kp B g' s'->P binds g'->(binds.all λx=>decide (scope.names.lookup x.1=some .local))=true->Q binds s')->wpAny (model PG w) A.in1 (bindArgs (fnX name qual params body scope [] dV kV doc pm an cdv ct) args) Q E s)
  (h:∀ binds g' L s' E',P binds g'->St B L (λy=>binds.reverse.lookup y) g' s' ->
   wpAny (model PG w) (A.deeper (envX qual scope L f cdv [])) (execs body (envX qual scope L f cdv [])) (λfl s'=>R (.ok (.ret (match fl with|.ret v=>v|_=>.none))) s') E' s')
  (hcell:∀ x∈scope.names,x.2≠.cell:=by decide) (hco:scope.isCoroutine=false:=by rfl) (hgen:scope.isGenerator=false:=by rfl) (hk:scope.kind=.function:=by rfl):codeAny (model PG w) A (.call (.ref f) args) R s:=by
 have hdep:A.depth < recursionLimit:=by have:=hr.d;show A.depth < 1000;exact om0 this
 have X:(HF w).In s.heap:=λa o e=>K.ov _ _ (B.X _ _ e);refine codeAny_call_function (fd:=fnX name qual params body scope [] dV kV doc pm an cdv ct) hdep (X _ _ ho) rfl hco hgen rfl (codeRec_of X hcd) (hbind _ _ λbinds g' s' K' hP hloc=>?_);have hz:=K'.size;refine wpAny_newFunctionEnv hcell (locs hloc) (λh₀ hns₀ hsb₀=>⟨(B.nolimit _ K'.ov).fresh _ hsb₀,codeAny_func (h binds g' _ _ _ hP ⟨K'.grow (λb o e=>?_) _,hns₀,K'.fresh (Nat.le_refl _),K'.freshB (Nat.le_refl _),Nat.ne_of_gt hz.1,Nat.ne_of_gt hz.2⟩)⟩) hk;exact hsb₀.extBut b o (Nat.ne_of_lt (Heap.lt_size e)) (Heap.get?_push_of_some _ e)
end
noncomputable def joinF (a b:Str):Str:=if Txt.startswith b (Str.ofString "/") || a.length == 0 then b else if Txt.endswith a (Str.ofString "/") then a ++ b else a ++ (Str.ofString "/" ++ b)
section
variable {w:World} {B:Bs w} {A:Around} {L:Addr} {m m':Str->Option Value} {g:PH} {s:Shared} {env:Env} {E:Value->Shared->Prop} {pl:Sem Bool}
theorem x_try {body:List Stmt} {h₀:ExceptHandler} {hs:List ExceptHandler} {pos:Pos} {rest:List Stmt} {Q:Flow->Shared->Prop}
  (h:∀ E',wpAny (model PG w) A (execs body env) (λf s₁=>match f with|.next=>wpAny (model PG w) A (execs rest env) Q E s₁|f=>Q f s₁) E' s):wpAny (model PG w) A (execs (.Try body (h₀ :: hs) [] [] pos :: rest) env) Q E s:=
 wpAny_execs_cons (wpAny_Try_except (wpAny_mono (h _) (λf s₁ h₁=>by
  cases f with
  |next=>exact wpAny_execs_nil h₁
  |_=>exact h₁) λ_ _ e=>e))
theorem o_startswith {Q:Value->Shared->Prop} {x y:Str} {t u:Tok} (hq:Q (.bool (Txt.startswith x y)) s):wpAny (model PG w) A (call (.builtin "str.startswith") [.str x t,.str y u]) Q E s:=SC.startswith hq
theorem o_endswith {Q:Value->Shared->Prop} {x y:Str} {t u:Tok} (hq:Q (.bool (Txt.endswith x y)) s):wpAny (model PG w) A (call (.builtin "str.endswith") [.str x t,.str y u]) Q E s:=SC.endswith hq
theorem o_truthyS {Q:Bool->Shared->Prop} {x:Str} {t:Tok} (S:St B L m g s) (hl:x.length≤100000) (h:∀ s',St B L m g s'->Q (x.length != 0) s'):wpAny (model PG w) A (truthy (.str x t)) Q E s:=by
 refine P.truthy_str (by exact om1 hl) ?_;have:((x.length:Int) != 0)=(x.length != 0):=by cases h:x.length with|zero=>rfl|succ n=>rw [bne_iff_ne.mpr (by exact om2 hl h),bne_iff_ne.mpr (by exact om3 hl h)]
 rw [this];exact h _ (S.toks _)
theorem o_iaddS {Q:Value->Shared->Prop} {a b:Str} {t u:Tok} (S:St B L m g s) (hl:a.length + b.length≤sizeLine) (h:∀ s' tk,St B L m g s'->Q (.str (a ++ b) tk) s'):wpAny (model PG w) A (inplaceOp .Add (.str a t) (.str b u)) Q E s:=iadd_str (λ_ _=>h _ _ (S.toks _)) hl
theorem n_tupleKp {vs:List Value} {Q:Value->Shared->Prop} (K:Kp B g s) (h:∀ s' l o',OT vs o'->g l=none->Kp B (put g l o') s'->Q (.ref l) s') (hsz:vs.length≤sizeLine:=by size_fits):wpAny (model PG w) A (newTuple vs) Q E s:=
 wpAny_newTuple (h _ _ _ ⟨rfl,0,rfl⟩ (K.fresh (Nat.le_refl _)) (K.alloc _ s.toks)) hsz
theorem sp_join {k:Nat} {R:Result->Shared->Prop} {a b:Str} {t u:Tok} (K:Kp B g s) (hr:Rm A (k + 1)) (hh:A.handled=none) (ha:a.length≤1000) (hb:b.length≤1000)
  (h:∀ s' g' tk,Sub g g'->Kp B g' s'->R (.ok (.ret (.str (joinF a b) tk))) s'):codeAny (model PG w) A (.call (.ref 235) ⟨[.str a t,.str b u],[]⟩) R s:=by
 have hz:=sizeLine_eq;refine call_fnB (λbinds g'=>Ex2 λl o=>And4 (g l=none) (g'=put g l o) (OT [.str b u] o) (binds=[(Str.ofString "a",.str a t),(Str.ofString "p",.ref l)])) K hr (by rfl) (by kernel_rfl) (λQ E hQ=>?_) λbinds g' L s' E' hP S=>?_
 ·show wpAny _ _ (newTuple [.str b u] >>= λl=>pure [(Str.ofString "a",.str a t),(Str.ofString "p",l)]) _ _ _;exact wpAny_bind (n_tupleKp K λs' l o' ot hl K'=>wpAny_pure (hQ _ _ _ K' ⟨l,o',hl,rfl,ot,rfl⟩ (by rfl)))
 refine in_AV (P:=λa v=>wpAny _ a (execs _ v) _ _ _) hr λA hr hA=>?_;intro ev;have hh:=hA.trans hh;refine gq λ_ z1=>?_;obtain ⟨l,o,hl,rfl,ot,rfl⟩:=hP;refine z1 ?_;walk_at "J";refine c_fspath S hr λs S=>?_;walk_at "J";refine c_get_sep ‹_› hr λs tk S=>?_;walk_at "J";refine x_try λE''=>?_;walk_at "J"
 refine for_O (O_tuple ‹_› hh (.inl (put_self ..)) ot) (λi m' g'=>g'=put g l o∧(∃ tp,m' (Str.ofString "path")=some (.str (if i=0 then a else joinF a b) tp))∧∃ ts,m' (Str.ofString "sep")=some (.str (Str.ofString "/") ts)) (λ_ _ _=>False)
  ⟨rfl,⟨_,by walk_at "J.m"⟩,_,by walk_at "J.m"⟩ (λi m' g' hI b hb o' e=>by rw [hI.1];exact e) ?_ ?_ (λ_ _ _ _ h=>h.elim)
 ·rintro i v m' g' s₁ B' E₁ _ hi hv ⟨rfl,⟨tp,hp⟩,ts,hs⟩ S₁;have:i=0:=by simp at hi;exact hi
  subst this;simp only [List.getElem?_cons_zero,Option.some.injEq] at hv;subst hv;rw [if_pos rfl] at hp;walk_at "J";refine c_fspath ‹_› hr λs S=>?_;walk_at "J";refine r_strMeth F.slot_str_startswith F.type_str_startswith ?_;walk_at "J";refine ⟨_,_,rfl,?_⟩;walk_at "J";refine o_startswith ?_;walk_at "J"
  have fin:∀ {m₂ s₂ x tp},St B' L m₂ (put g l o) s₂->m₂ (Str.ofString "path")=some (.str x tp)->m₂ (Str.ofString "sep")=some (.str (Str.ofString "/") ts)->x=joinF a b->TurnEnd B' L (λm' g'=>g'=put g l o∧(∃ tp,m' (Str.ofString "path")=some (.str (if 0 + 1=0 then a else joinF a b) tp))∧∃ ts,m' (Str.ofString "sep")=some (.str (Str.ofString "/") ts)) (λ_ _ _=>False) .next s₂:=λS h1 h2 h3=>
   ⟨_,_,S,rfl,⟨_,by rw [if_neg (by decide),<-h3];exact h1⟩,_,h2⟩
  cases h1:Txt.startswith b (Str.ofString "/") with
  |true=>
   refine if_t rfl ?_;walk_at "J";exact fin ‹_› (by walk_at "J.m") (by walk_at "J.m") (by unfold joinF;rw [h1];rfl)
  |false=>
   refine if_f (by decide) ?_;walk_at "J";refine o_truthyS ‹_› (by exact n_t ‹_› (by decide)) λs S=>?_;cases h2:a.length != 0 with
   |false=>
    refine if_t (by rfl) ?_;walk_at "J";exact fin ‹_› (by walk_at "J.m") (by walk_at "J.m") (by unfold joinF;rw [h1,bne_eq_false_iff_eq.mp h2];rfl)
   |true=>
    have h2':(a.length == 0)=false:=by simpa using h2
    refine if_f (by decide) ?_;walk_at "J";refine r_strMeth F.slot_str_endswith F.type_str_endswith ?_;walk_at "J";refine ⟨_,_,rfl,?_⟩;walk_at "J";refine o_endswith ?_;cases h3:Txt.endswith a (Str.ofString "/") with
    |true=>
     walk_at "J";refine o_iaddS ‹_› (by exact om4 ha hb hz) λs tk S=>?_;walk_at "J";exact fin ‹_› (by walk_at "J.m") (by walk_at "J.m") (by unfold joinF;rw [h1,h2',h3];rfl)
    |false=>
     walk_at "J";refine o_addS ‹_› (by show 1 + b.length≤_;exact om5 hb hz) λs tk S=>?_;walk_at "J";refine o_iaddS ‹_› (by show a.length + (Str.ofString "/" ++ b).length≤_;rw [show (Str.ofString "/" ++ b).length=1 + b.length from Str.length_append ..];exact om6 ha hb hz) λs tk S=>?_;walk_at "J";exact fin ‹_› (by walk_at "J.m") (by walk_at "J.m") (by unfold joinF;rw [h1,h2',h3];rfl)
 ·rintro m' g' s₁ E₁ ⟨rfl,⟨tp,hp⟩,ts,hs⟩ S₁;rw [if_neg (by simp)] at hp;walk_at "J";exact h _ _ _ (Sub.put hl) S₁.kp
end
noncomputable def dnF (p:Str):Str:=
 let h:=Txt.slice p none (some (Txt.rfind p (Str.ofString "/") + 1))
 if h.length != 0 && decide (h≠Txt.mul (Str.ofString "/") h.length) then Txt.rstripChars h (Str.ofString "/") else h
section
variable {w:World} {B:Bs w} {A:Around} {L:Addr} {m m':Str->Option Value} {g:PH} {s:Shared} {env:Env} {E:Value->Shared->Prop} {pl:Sem Bool}
theorem o_lenS {Q:Value->Shared->Prop} {x:Str} {t:Tok} (S:St B L m g s) (hl:x.length≤100000) (h:∀ s' tk,St B L m g s'->Q (.int x.length tk) s'):wpAny (model PG w) A (call (.builtin "len") [.str x t]) Q E s:=
 P.len_str (by exact om1 hl) (h _ _ (S.toks _))
theorem mulOk_slash {n:Nat} (h:n≤1000):MulOk (Str.ofString "/") n:=by
 have l1:(Str.ofString "/").length=1:=rfl;refine ⟨by rw [decide_eq_false (by exact om7 h),decide_eq_false (by exact om8 h)];rfl,λh1 _=>?_,λh1 _=>?_⟩
 ·rw [l1];have h1':(1:Int)≤n:=by exact om9 h h1
  have:(1000:Int)≤(2 ^ 63 - 1) / n:=(Int.le_ediv_iff_mul_le (by exact om10 h h1)).mpr (by exact om11 h h1);exact om12 this
 ·rw [l1];have:=sizeLine_eq;unfold Builtin.Str.tooLong;simp;exact n_t ‹_› (by decide)
theorem beq_cps (x y:Str):(x.cps.toList == y.cps.toList)=decide (x=y):=by
 rw [Bool.eq_iff_iff,beq_iff_eq,decide_eq_true_iff]
 constructor
 ·intro h;cases x;cases y;simp at h;rw [h]
 ·rintro rfl;rfl
theorem o_neS {Q:Value->Shared->Prop} {x y:Str} {t u:Tok} (h:Q (.bool (decide (x≠y))) s):wpAny (model PG w) A (compareOp .NotEq (.str x t) (.str y u)) Q E s:=P.ne_str (by
 have:(x.cps.toList != y.cps.toList)=decide (x≠y):=by rw [bne,beq_cps];simp
 rw [this];exact h)
theorem sp_dirname {k:Nat} {R:Result->Shared->Prop} {x:Str} {t:Tok} (K:Kp B g s) (hr:Rm A (k + 1)) (hx:x.length≤1000)
  (h:∀ s' tk,Kp B g s'->R (.ok (.ret (.str (dnF x) tk))) s'):codeAny (model PG w) A (.call (.ref 249) ⟨[.str x t],[]⟩) R s:=by
 have hz:=sizeLine_eq;refine call_fn (binds:=[(Str.ofString "p",.str x t)]) K hr (by rfl) (by kernel_rfl) (BindsTo.of_eq rfl) (by rfl) (λL s E S=>?_);refine in_AV (P:=λa v=>wpAny _ a (execs _ v) _ _ _) hr λA hr hA=>?_;intro ev;walk_at "J";refine c_fspath S hr λs S=>?_;walk_at "J";refine c_get_sep ‹_› hr λs tk S=>?_;walk_at "J";refine r_strMeth F.slot_str_rfind F.type_str_rfind ?_;walk_at "J";refine ⟨_,_,rfl,?_⟩;walk_at "J";refine o_rfind ‹_› λs tk S=>?_;walk_at "J";refine o_addI ‹_› λs tk S=>?_;walk_at "J";refine t_slice_ns ‹_› (by exact n_t ‹_› (by decide)) λs tk S=>?_;walk_at "J";have hH1:=Txt.slice_le x none (some (Txt.rfind x (Str.ofString "/") + 1));have key:dnF x=(let h:=Txt.slice x none (some (Txt.rfind x (Str.ofString "/") + 1));if h.length != 0 && decide (h≠Txt.mul (Str.ofString "/") h.length) then Txt.rstripChars h (Str.ofString "/") else h):=rfl;generalize hH:Txt.slice x none (some (Txt.rfind x (Str.ofString "/") + 1))=H at *;dsimp only at key;refine o_truthyS ‹_› (by exact n_t ‹_› (n_t ‹_› (by decide))) λs S=>?_;cases h1:H.length != 0 with
 |false=>
  refine if_f (by decide) ?_;walk_at "J";rw [h1,if_neg (by simp)] at key;rw [key] at h;exact h _ _ (St.kp ‹_›)
 |true=>
  refine if_t (by rfl) ?_;walk_at "J";refine o_lenS ‹_› (by exact n_t ‹_› (n_t ‹_› (by decide))) λs tk S=>?_;walk_at "J";refine o_mulS ‹_› (mulOk_slash (by exact n_t ‹_› (n_t ‹_› (by decide)))) λs tk S=>?_;walk_at "J";refine o_neS ?_;walk_at "J";rw [h1,Bool.true_and] at key;cases h2:decide (H≠Txt.mul (Str.ofString "/") H.length) with
  |false=>
   rw [h2,if_neg (by decide)] at key;rw [key] at h;refine if_f (by decide) ?_;walk_at "J";exact h _ _ (St.kp ‹_›)
  |true=>
   rw [h2,if_pos rfl] at key;rw [key] at h;refine if_t (by rfl) ?_;walk_at "J";refine r_strMeth F.slot_str_rstrip F.type_str_rstrip ?_;walk_at "J";refine ⟨_,_,rfl,?_⟩;walk_at "J";refine o_rstrip ‹_› (by exact n_t ‹_› (n_t ‹_› (by decide))) λs tk S=>?_;walk_at "J";exact h _ _ (St.kp ‹_›)
end
section
variable {w:World} {B:Bs w} {A:Around} {L:Addr} {m m':Str->Option Value} {g:PH} {s:Shared} {env:Env} {E:Value->Shared->Prop} {pl:Sem Bool}
theorem c_join {k:Nat} {a b:Str} {t u:Tok} {Q:Value->Shared->Prop} (S:St B L m g s) (hr:Rm A (k + 1)) (hh:A.handled=none) (ha:a.length≤1000) (hb:b.length≤1000)
  (h:∀ s' g' tk,Sub g g'->St B L m g' s'->Q (.str (joinF a b) tk) s'):wpAny (model PG w) A (call (.ref 235) [.str a t,.str b u]) Q E s:=by
 refine S.call λr K back=>?_;exact r_defCall (sp_join K hr hh ha hb λs' g' tk sub K'=>h _ _ _ sub (back _ _ K'))
theorem c_basename {k:Nat} {x:Str} {t:Tok} {Q:Value->Shared->Prop} (S:St B L m g s) (hr:Rm A (k + 1)) (hx:x.length≤sizeLine)
  (h:∀ s' tk,St B L m g s'->Q (.str (bnF x) tk) s'):wpAny (model PG w) A (call (.ref 242) [.str x t]) Q E s:=by
 refine S.call λr K back=>?_;exact r_defCall (sp_basename K hr hx λs' tk K'=>h _ _ (back _ _ K'))
theorem c_dirname {k:Nat} {x:Str} {t:Tok} {Q:Value->Shared->Prop} (S:St B L m g s) (hr:Rm A (k + 1)) (hx:x.length≤1000)
  (h:∀ s' tk,St B L m g s'->Q (.str (dnF x) tk) s'):wpAny (model PG w) A (call (.ref 249) [.str x t]) Q E s:=by
 refine S.call λr K back=>?_;exact r_defCall (sp_dirname K hr hx λs' tk K'=>h _ _ (back _ _ K'))
theorem c_thing {p:Str} {t:Tok} {Q:Value->Shared->Prop} (S:St B L m g s) (hr:Rm A 3)
  (h:∀ s' f rl d g',Sub g g'->g f=none->g rl=none->g d=none->Thing w g' f rl d p [p]->St B L m g' s'->Q (.ref f) s'):wpAny (model PG w) A (call (.ref 298) [.str p t]) Q E s:=by
 refine S.call λr K back=>?_;refine r_defCall (codeAny_mono (sp_thing K hr) λr s' hR=>?_);obtain ⟨f,rl,d,g',rfl,K',sub,hf,hl,hd,T⟩:=hR;exact h _ _ _ _ _ sub hf hl hd T (back _ _ K')
theorem sp_mk {f rl p row fd d od orow oc1 oc2 vs mA f1 f2 c1 c2 t t' n tn va} (T:ThingX w g f rl p row fd d od orow oc1 oc2 vs mA f1 f2 c1 c2 t t') (K:Kp B g s) (hr:Rm A 4) (hh:A.handled=none) (ha:p.length≤1000) (hb:n.length≤1000) :
  codeAny (model PG w) A (.call (.ref f1) ⟨[.str n tn,va],[]⟩) (λr s'=>Ex4 λf' rl' d' g'=>And7 (r=.ok (.ret (.ref f'))) (Kp B g' s') (Sub g g') (g f'=none) (g rl'=none) (g d'=none) (Thing w g' f' rl' d' (joinF p n) [joinF p n])) s:=by
 refine T.l1_.call K hr (by rfl) (binds:=[(Str.ofString "name",.str n tn),(Str.ofString "attrib",va)]) (λ_ _ _=>by rfl) (by rfl) λL s' E' cdv S=>?_;have C:CellAt B g c1 (.str p t'):=⟨_,.inl T.c1_,T.d1_⟩;walk_at "J";refine c_join S hr.deeper hh ha hb λs g₁ tk sub₁ S=>?_;walk_at "J";refine c_thing ‹_› hr.deeper λs f' rl' d' g₂ sub₂ nf nl nd T' S=>?_;have hs:=sub₁.trans sub₂;refine ⟨f',rl',d',g₂,rfl,S.kp,hs,?_,?_,?_,T'⟩
 ·cases q:g f' with
  |none=>rfl
  |some x=>rw [sub₁ _ _ q] at nf;cases nf
 ·cases q:g rl' with
  |none=>rfl
  |some x=>rw [sub₁ _ _ q] at nl;cases nl
 ·cases q:g d' with
  |none=>rfl
  |some x=>rw [sub₁ _ _ q] at nd;cases nd
theorem sp_ap {f rl p row fd d od orow oc1 oc2 vs mA f1 f2 c1 c2 t t'} {f' rl' p' row' fd' d' od' orow' oc1' oc2' vs' mA' f1' f2' c1' c2' u u'} (T:ThingX w g f rl p row fd d od orow oc1 oc2 vs mA f1 f2 c1 c2 t t') (T':ThingX w g f' rl' p' row' fd' d' od' orow' oc1' oc2' vs' mA' f1' f2' c1' c2' u u') (K:Kp B g s) (hr:Rm A 3) (hz:row.length≤1000) (ha:p'.length≤1000) :
  codeAny (model PG w) A (.call (.ref f2) ⟨[.ref f'],[]⟩) (λr s'=>Ex2 λo' tk=>And3 (r=.ok (.ret .none)) (OL (vs ++ [.str (bnF p') tk]) o') (Kp B (put g rl o') s')) s:=by
 have sz:=sizeLine_eq;refine T.l2_.call K hr (by rfl) (binds:=[(Str.ofString "one",.ref f')]) (λ_ _ _=>by rfl) (by rfl) λL s' E' cdv S=>?_;have C:CellAt B g c2 (.ref f):=⟨_,.inl T.c2_,T.d2_⟩;refine r_meth F.plainAttrs_list F.slot_list_append F.type_list_append ?_;walk_at "J";refine fa_get S T.f_ T.d_ T.oa_ T.row_ fn_row rfl λs S=>?_;refine ⟨T.ol_.typeIs (S.sub T.rl_),λa e=>by cases e;exact ⟨_,S.sub T.rl_,by obtain ⟨n,rfl⟩:=T.ol_;rfl⟩,?_⟩;walk_at "J";refine fa_get ‹_› T'.f_ T'.d_ T'.oa_ T'.path_ fn_path rfl λs S=>?_;walk_at "J";refine c_basename (x:=p') ‹_› hr.deeper (by exact n_t ‹_› (by decide)) λs tk S=>?_;walk_at "J";refine o_append ‹_› T.rl_ T.ol_ (by have:=StrsAre.len_eq T.vs_;exact n_t (n_e ‹_›) (n_t ‹_› (by decide))) λs o' ho' S=>?_;exact ⟨o',tk,rfl,ho',S.kp⟩
end
section
variable {w:World} {B:Bs w} {A:Around} {L:Addr} {m m':Str->Option Value} {g:PH} {s:Shared} {env:Env} {E:Value->Shared->Prop} {pl:Sem Bool}
theorem merge_empty {d a:Addr} {od oa:Obj} {n k:Nat} {Q:Unit->Shared->Prop} (hd:s.heap.get? d=some od) (dd:od.data=.dict #[] n) (ha:s.heap.get? a=some oa) (ca:oa.cls=.type "dict") (da:oa.data=.dict #[] k) (hs:(a == sysModules)=false) (h:Q () s) :
  wpAny (model PG w) A (mergeMapping d (.ref a) false) Q E s:=by
 have hT:s.TypeIs (.ref a) "dict":=⟨oa,ha,ca⟩;have hi:isSubtype (.type "dict") (.type "dict")=pure true:=by rw [isSubtype_type];kernel_rfl
 unfold mergeMapping;refine wpAny_bind (wpAny_isInstance hT hi ?_);dsimp only;rw [if_pos rfl];refine wpAny_bind (wpAny_specialOf hT F.slot_dict_iter.lookup (wpAny_bind (wpAny_pure ?_)));have e:(some (Value.builtin "dict.__iter__") == some (Value.builtin "dict.__iter__"))=true:=by decide
 rw [e];dsimp only
 try rw [hs]
 try simp -iota only [Bool.false_eq_true,if_false]
 refine wpAny_bind (wpAny_dictEntries hd dd ?_);rw [show (#[]:Array DictEntry).isEmpty=true from rfl,if_pos rfl];refine wpAny_bind (wpAny_dictEntries ha da ?_);rw [show ∀ f:DictEntry->PUnit->Sem (ForInStep PUnit),forIn (#[]:Array DictEntry) PUnit.unit f=pure PUnit.unit from λf=>by simp];refine wpAny_bind (wpAny_pure ?_);refine wpAny_bind (wpAny_dictEntries ha da ?_);refine wpAny_bind (wpAny_dictEpoch ha da ?_);refine wpAny_bind (wpAny_pure ?_);exact wpAny_pure h
theorem r_dictStar2 {v₁ v₂:Expr} {pos:Pos} {a b:Addr} {oa ob:Obj} {ka kb:Nat} {Q:Value->Shared->Prop} (S:St B L m g s) (ha:Has B g a oa) (ca:oa.cls=.type "dict") (da:oa.data=.dict #[] ka) (hsa:(a == sysModules)=false)
  (hb:Has B g b ob) (cb:ob.cls=.type "dict") (db:ob.data=.dict #[] kb) (hsb:(b == sysModules)=false)
  (h1:∀ s (Q:Value->Shared->Prop) E,(∃ g,St B L m g s)->Q (.ref a) s->wpAny (model PG w) A (eval v₁ env) Q E s) (h2:∀ s (Q:Value->Shared->Prop) E,(∃ g,St B L m g s)->Q (.ref b) s->wpAny (model PG w) A (eval v₂ env) Q E s)
  (h:∀ s' D,St B L m g s'->Q (.ref D) s')
  (he:(evalEachOpt [none,none] env).zip ((evalEach [v₁,v₂] env).map λv=>do let x <-v;standAt pos;pure x)=[(none,do let x <-eval v₁ env;standAt pos;pure x),(none,do let x <-eval v₂ env;standAt pos;pure x)]:=by rfl) :
  wpAny (model PG w) A (eval (.Dict [none,none] [v₁,v₂] pos) env) Q E s:=by
 rw [arm_eval_Dict,he];refine wpAny_bind (wpAny_standAt ?_);have S₁:=S.push { cls:=.type "dict",data:=.dict #[] } s.toks;have e₁:(s.heap.push { cls:=.type "dict",data:=.dict #[] }).get? s.heap.objs.size=some { cls:=.type "dict",data:=.dict #[] }:=Heap.get?_push_size _ rfl;unfold dictDisplay;dsimp only [List.forIn_cons,List.forIn_nil,List.isEmpty_nil];simp -iota only [List.forIn_cons,List.forIn_nil,List.isEmpty_nil,if_true,pure_bind];refine wpAny_bind (wpAny_bind (wpAny_bind (wpAny_alloc (wpAny_bind (wpAny_holding (wpAny_bind (h1 _ _ _ ⟨_,S₁⟩ (wpAny_bind (wpAny_standAt (wpAny_pure ?_))))))))));have a₁:=(ha.get S.kp);have b₁:=(hb.get S.kp);have ga:(s.heap.push { cls:=.type "dict",data:=.dict #[] }).get? a=some oa:=Heap.get?_push_of_some _ a₁;have gb:(s.heap.push { cls:=.type "dict",data:=.dict #[] }).get? b=some ob:=Heap.get?_push_of_some _ b₁;refine wpAny_bind (wpAny_onRaise (wpAny_tryCatch (wpAny_onRaise (wpAny_holding (merge_empty e₁ rfl ga ca da hsa ?_)))));refine wpAny_pure (wpAny_bind ?_);dsimp only;refine wpAny_bind (wpAny_pure ?_);refine wpAny_bind (wpAny_holding (wpAny_bind (h2 _ _ _ ⟨_,S₁⟩ (wpAny_bind (wpAny_standAt (wpAny_pure ?_))))));refine wpAny_bind (wpAny_onRaise (wpAny_tryCatch (wpAny_onRaise (wpAny_holding (merge_empty e₁ rfl gb cb db hsb ?_)))));exact wpAny_pure (wpAny_pure (wpAny_bind (wpAny_pure (wpAny_pure (h _ _ S₁)))))
theorem r_cwFn {pos:Pos} {a:Addr} {first:List Value} {e:Expr} {rest:List Expr} {Q:Value->Shared->Prop}
  (h:wpAny (model PG w) A (spliced (backTo pos (starEach (e :: rest) env))) (λvs s₁=>FnAt a s₁.heap∧wpAny (model PG w) A (call (.ref a) (first ++ vs)) Q E s₁) E s)
  (he:starEach (e :: rest) env=(false,eval e env) :: starEach rest env:=by rfl) (hplain:(backTo pos (starEach rest env)).any (·.1)=false:=by rfl) :
  wpAny (model PG w) A (callWith pos (.ref a) first (backTo pos (starEach (e :: rest) env)) []) Q E s:=by
 rw [he] at h ⊢;exact callWith_of (by show ((false || (backTo pos (starEach rest env)).any (·.1)) || false)=false;rw [hplain];rfl) keeps_F (evalArgs_plain h)
theorem r_cwFn0 {pos:Pos} {a:Addr} {first:List Value} {Q:Value->Shared->Prop} (X:FnAt a s.heap) (h:wpAny (model PG w) A (call (.ref a) first) Q E s) :
  wpAny (model PG w) A (callWith pos (.ref a) first (backTo pos (starEach [] env)) []) Q E s:=
 callWith_of rfl keeps_F (evalArgs_nil3 ⟨X,by rw [List.append_nil];exact h⟩)
theorem LamO.fn {fdef:Addr} {i:Nat} {q:Str} {cl:List (Str×Addr)} {f:Addr} (x:LamO w fdef i q cl g f) (S:St B L m g s):FnAt f s.heap:=by
 obtain ⟨p,e,sc,pm,cdv,ct,h1,h2,h3⟩:=x;exact ⟨_,_,_,_,S.sub h2⟩
theorem ThingX.sub {g':PH} {f rl p row fd d od orow oc1 oc2 vs mA f1 f2 c1 c2 t t'} (x:ThingX w g f rl p row fd d od orow oc1 oc2 vs mA f1 f2 c1 c2 t t') (k:Sub g g'):ThingX w g' f rl p row fd d od orow oc1 oc2 vs mA f1 f2 c1 c2 t t':=
 ⟨k _ _ x.f_,k _ _ x.d_,x.oa_,x.path_,x.row_,x.mkv_,x.apv_,k _ _ x.rl_,x.ol_,x.vs_,x.l1_.sub k,x.l2_.sub k,k _ _ x.c1_,x.d1_,k _ _ x.c2_,x.d2_⟩
theorem none_sub {g g':PH} {a:Addr} (h:g' a=none) (k:Sub g g'):g a=none:=by
 cases q:g a with
 |none=>rfl
 |some x=>rw [k _ _ q] at h;cases h
theorem sp_sub {f rl d:Addr} {p n:Str} {row:List Str} {tn:Tok} (T:Thing w g f rl d p row) (K:Kp B g s) (hr:Rm A 5) (hh:A.handled=none) (ha:p.length≤900) (hb:n.length≤90) (hz:row.length≤1000) :
  codeAny (model PG w) A (.call (.ref 291) ⟨[.ref f,.str n tn],[]⟩) (λr s'=>Ex4 λf' rl' d' g'=>And8 (r=.ok (.ret (.ref f'))) (Kp B g' s') (Chg [rl] g g') (g f'=none) (g rl'=none) (g d'=none) (Thing w g' f rl d p (row ++ [bnF (joinF p n)])) (Thing w g' f' rl' d' (joinF p n) [joinF p n])) s:=by
 refine call_fnB (λbinds g'=>Ex2 λl o=>And6 (g l=none) (B.base l=none) (g'=put g l o) (o.cls=.type "dict") (o.data=.dict #[]) (binds=[(Str.ofString "parent",.ref f),(Str.ofString "tag",.str n tn),(Str.ofString "attrib",.ref 283),(Str.ofString "extra",.ref l)])) K hr (by rfl) (by kernel_rfl) (λQ E hQ=>?_) λbinds g' L s' E' hP S=>?_
 ·have e284:s.heap.get? 284=some ⟨.type "tuple",none,.seq #[.ref 283],#[]⟩:=K.ov _ _ (B.X _ _ (by rfl));change wpAny _ _ (seqItems? (.ref 284) >>= _) _ _ _;refine wpAny_bind (wpAny_seqItems e284 rfl ?_);change wpAny _ _ (alloc _ >>= _) _ _ _;refine wpAny_bind (wpAny_alloc ?_);change wpAny _ _ (pure [(Str.ofString "parent",Value.ref f),(Str.ofString "tag",Value.str n tn),(Str.ofString "attrib",Value.ref 283),(Str.ofString "extra",Value.ref _)]) _ _ _;exact wpAny_pure (hQ _ _ _ (K.alloc _ s.toks) ⟨_,_,K.fresh (Nat.le_refl _),K.freshB (Nat.le_refl _),rfl,rfl,rfl,rfl⟩ (by rfl))
 refine in_AV (P:=λa v=>wpAny _ a (execs _ v) _ _ _) hr λA hr hA=>?_;intro ev;have hh:=hA.trans hh;refine gq λ_ z1=>?_;obtain ⟨l,o,hl,hlb,rfl,oc,od,rfl⟩:=hP;have sub:=Sub.put (o:=o) hl;have T:=T.sub sub;obtain ⟨x283,hx⟩:∃ x,x=(⟨.type "dict",none,.dict #[],#[]⟩:Obj):=⟨_,rfl⟩;refine z1 ?_;have e283:B.base 283=some (.ex ⟨.type "dict",none,.dict #[],#[]⟩):=B.X _ _ (by rfl);refine x_assign ?_;refine r_dictStar2 S (.inr e283) rfl rfl (by decide) (.inl (put_self ..)) oc od (sysNe S (put_self ..)) (λs Q E ⟨g,S⟩ hq=>r_local S (by walk_at "J.m") hq) (λs Q E ⟨g,S⟩ hq=>r_local S (by walk_at "J.m") hq) λs' D S=>?_;walk_at "J";obtain ⟨fd,od,orow,oc1,oc2,vs,mA,f1,f2,c1,c2,t,t',X⟩:=T;refine MethodCall_ ?_;walk_at "J";refine gm_fn ‹_› X.f_ X.d_ X.oa_ X.mkv_ fn_mk fn_ga rfl λs S=>?_;refine r_cwFn ?_;walk_at "J";refine ⟨X.l1_.fn ‹_›,?_⟩;refine St.call ‹_› λr K₁ back=>?_;refine r_defCall (codeAny_mono (sp_mk X K₁ hr hh (by exact n_t ‹_› (by decide)) (by exact n_t ‹_› (by decide))) λr s' hR=>?_);obtain ⟨f',rl',d',g',rfl,K',sub',nf,nl,nd,T'⟩:=hR;have S:=back _ _ K';dsimp only;walk_at "J";refine MethodCall_ ?_;walk_at "J";have X':=X.sub sub';refine gm_fn ‹_› X'.f_ X'.d_ X'.oa_ X'.apv_ fn_ap fn_ga rfl λs S=>?_;refine r_cwFn ?_;walk_at "J";refine ⟨X'.l2_.fn ‹_›,?_⟩;refine St.call ‹_› λr K₂ back=>?_;obtain ⟨fd',od',orow',oc1',oc2',vs',mA',f1',f2',c1',c2',u,u',Y⟩:=id T'
 have hjl:(joinF p n).length≤1000:=by
  unfold joinF
  split
  ·exact n_t ‹_› (by decide)
  ·split
   ·rw [show (p ++ n).length=p.length + n.length from Str.length_append ..];exact om13 ha hb
   ·rw [show (p ++ (Str.ofString "/" ++ n)).length=p.length + (1 + n.length) from by rw [Str.length_append,Str.length_append];rfl];exact om14 ha hb
 refine r_defCall (codeAny_mono (sp_ap X' Y K₂ (hr.le (by decide)) hz hjl) λr s' hR=>?_);obtain ⟨o',tk,rfl,hol,K'⟩:=hR;have S:=back _ _ K';dsimp only;walk_at "J";have ne:rl'≠rl:=(ne_none X.rl_ nl).symm;have ch:Chg [rl] g' (put g' rl o'):=Chg.put (by simp);have ls:Lists g' [rl]:=.one X'.rl_ X'.ol_;refine ⟨f',rl',d',_,rfl,S.kp,(sub.trans sub').chg.trans ch,none_sub nf sub,none_sub nl sub,none_sub nd sub,?_,T'.chg ch ls (by simpa using ne)⟩;exact Thing.move ⟨fd,od,orow,oc1,oc2,vs,mA,f1,f2,c1,c2,t,t',X'⟩ ch ls (put_self ..) hol (X.vs_.append' (.cons _ _ .nil))
end
section
variable {w:World} {B:Bs w} {A:Around} {L:Addr} {m m':Str->Option Value} {g:PH} {s:Shared} {env:Env} {E:Value->Shared->Prop} {pl:Sem Bool}
theorem St.awayNew (S:St B L m g s) {D:Addr} {h':Heap} {o:Obj} (hD:s.heap.objs.size≤D) (ho:h'.get? D=some o):Away B L g [D] h':=by
 have hz:=S.kp.size;exact .one (S.kp.freshB hD) (S.kp.fresh hD) (Nat.ne_of_gt (Nat.lt_of_lt_of_le S.ns.lt hD)) (Nat.ne_of_gt (Nat.lt_of_lt_of_le hz.1 hD)) (Nat.ne_of_gt (Nat.lt_of_lt_of_le hz.2 hD)) ⟨o,ho⟩
theorem St.takeA (S:St B L m g s) {D:Addr} {o:Obj} (a:Away B L g [D] s.heap) (ho:s.heap.get? D=some o):St B L m (put g D o) s:=
 S.take ho (a.base _ (.head _)) (a.L _ (.head _)) (a.t1 _ (.head _)) (a.t2 _ (.head _))
theorem o_sorted {l:Addr} {vs:List Value} {ss:List Str} {Q:Value->Shared->Prop} (S:St B L m g s) (hl:s.heap.IsList l vs.toArray) (hS:StrsAre vs ss) (h64:vs.length < 64)
  (h:∀ s' D us ss' e,St B L m g s'->s'.heap.get? D=some (listOf us.toArray e)->Away B L g [D] s'.heap->StrsAre us ss'->ss'.Perm ss->sortedS ss'=true->Q (.ref D) s'):wpAny (model PG w) A (call (.builtin "sorted") [.ref l]) Q E s:=by
 refine sorted_strs hl hS h64 λout ss' h1 h2 h3=>?_;obtain ⟨e,he⟩:=sortedAll_at s.heap vs out;have he':(sortedAll s.heap vs out).get? (s.heap.objs.size + 1)=some (listOf out.toList.toArray e):=by simpa using he
 exact h { s with heap:=sortedAll s.heap vs out } _ out.toList ss' e (S.grow (λb o eo=>sortedAll_old eo) s.toks) he' (S.awayNew (Nat.le_succ _) he') h1 h2 h3
theorem o_sortedD {d:Addr} {kvs:List (Str×Value)} {o:Obj} {Q:Value->Shared->Prop} (S:St B L m g s) (hh:A.handled=none) (hsys:(d == sysModules)=false) (hd:Has B g d o) (x:OD w kvs o) (h64:kvs.length < 64)
  (h:∀ s' D us ss' e,St B L m g s'->s'.heap.get? D=some (listOf us.toArray e)->Away B L g [D] s'.heap->StrsAre us ss'->ss'.Perm (kvs.map (·.1))->sortedS ss'=true->Q (.ref D) s'):wpAny (model PG w) A (call (.builtin "sorted") [.ref d]) Q E s:=by
 obtain ⟨ep,hd'⟩:∃ ep,s.heap.DictAt (PySem.strKind PG w) d kvs ep:=by
  obtain ⟨o,es,ep,e,a,r1,r2⟩:=x.dictOf (hd.get S.kp);exact ⟨ep,o,es,e,a,r1,r2⟩
 refine kdu_sorted (kdl_dict (knd:=PySem.strKind PG w) (kvs:=kvs) (ep:=ep) hsys) hh S.fr (S.news (xs:=[L]) (by simp)) hd' (by rw [sizeLine_eq];exact om15 h64) λD h' tk vs F' N' hD hlen hv=>?_;have S':=S.ofNews F' N' (λp hp=>.tail _ hp) tk;have hDo:h'.get? D=some (listOf vs.toArray 0):=(N' _ (.head _)).1
 have hS:StrsAre vs (kvs.map (·.1)):=by
  have:∀ (kvs:List (Str×Value)) (vs:List Value),vs.length=kvs.length->(∀ (j:Nat) (v:Value),vs[j]?=some v->∃ k x,kvs[j]?=some (k,x)∧(PySem.strKind PG w).is k v=true)->StrsAre vs (kvs.map (·.1)):=by
   intro kvs
   induction kvs with
   |nil=>intro vs hl _;cases vs with
    |nil=>exact .nil
    |cons _ _=>cases hl
   |cons kv r ih=>
    intro vs hl hv;cases vs with
    |nil=>cases hl
    |cons v vs=>
     refine gq λ_ z1=>?_;obtain ⟨k,x,e1,e2⟩:=hv 0 v rfl;simp at e1;subst e1;obtain ⟨t,rfl⟩:=Value.isStrOf_shape e2;refine z1 ?_;exact .cons _ _ (ih vs (by simpa using hl) λj v e=>by simpa using hv (j + 1) v (by simpa using e))
  exact this _ _ hlen hv
 have a:Away B L g [D] h':=by
  refine .one ?_ ?_ ?_ ?_ ?_ ?_
  ·cases q:B.base D with
   |none=>rfl
   |some o=>
    obtain ⟨o',e'⟩:=(S.ov _ _ q).is;exact absurd (hD (D,o') (mem_allBut.mpr ⟨e',by simp;rintro rfl;rw [S.offb] at q;cases q⟩)) (Nat.lt_irrefl _)
  ·cases q:g D with
   |none=>rfl
   |some o=>exact absurd (hD (D,o) (mem_allBut.mpr ⟨S.sub q,by simp;exact (S.ne q).symm⟩)) (Nat.lt_irrefl _)
  ·exact (N' _ (.head _)).2.1
  ·obtain ⟨_,e,_⟩:=S.kp.t1;exact Nat.ne_of_gt (hD (321,_) (mem_allBut.mpr ⟨e,by simp;exact S.o1.symm⟩))
  ·obtain ⟨_,e,_⟩:=S.kp.t2;exact Nat.ne_of_gt (hD (293,_) (mem_allBut.mpr ⟨e,by simp;exact S.o2.symm⟩))
  ·exact ⟨_,hDo⟩
 refine wpAny_call_entry PyProof.Rows.slot_list_sort ⟨_,hDo,rfl⟩ PyProof.Rows.entry_list_sort (list_sort_treeK strKind_oneLt hDo hS.keysOf (λv₁ v₂ rest e=>keyKind_strs (by rw [<-e];exact hS)) (by exact om16 h64 hlen) λst' hp hs=>⟨_,rfl,?_⟩) (args_list_sort _);refine gq λ_ z2=>?_;obtain ⟨ss',h1,h2,h3⟩:=sorted_out_str hS hp hs;obtain ⟨e,he⟩:=sortedHeap_at (out:=(arrOf st').map (·.2)) hDo;refine z2 ?_;have he':(sortedHeap h' D vs ((arrOf st').map (·.2))).get? D=some (listOf ((arrOf st').map (·.2)).toList.toArray e):=by rw [Array.toArray_toList];exact he
 have S'':St B L m g { s with heap:=sortedHeap h' D vs ((arrOf st').map (·.2)),toks:=tk }:=S'.moved (wr:=[D]) a (λb o hb eo=>by
  rw [sortedHeap_old (by simpa using hb) (Heap.lt_size eo)];exact eo) tk
 exact h _ _ _ ss' e S'' he' ⟨a.base,a.g,a.L,a.t1,a.t2,λb hb=>by cases List.mem_singleton.mp hb;exact ⟨_,he'⟩⟩ h1 h2 h3
end
section
variable {w:World} {B:Bs w} {A:Around} {L:Addr} {m m':Str->Option Value} {g:PH} {s:Shared} {env:Env} {E:Value->Shared->Prop} {pl:Sem Bool}
noncomputable def emptyD:Obj:={ cls:=.type "dict",data:=.dict #[] }
theorem OD.empty:OD w [] emptyD:=by
 refine ⟨⟨rfl,rfl,rfl⟩,#[],0,rfl,?_,?_,.nil⟩
 ·intro e he;simp at he
 ·exact .nil
theorem OD.cls {kvs:List (Str×Value)} {o:Obj} (h:OD w kvs o):o.cls=.type "dict":=h.1.1
theorem r_dict0 {pos:Pos} {Q:Value->Shared->Prop} (S:St B L m g s) (h:∀ s' d o,OD w [] o->g d=none->B.base d=none->d≠L->St B L m (put g d o) s'->Q (.ref d) s'):wpAny (model PG w) A (eval (.Dict [] [] pos) env) Q E s:=
 wpAny_Dict_empty (h _ _ _ OD.empty (S.kp.fresh (Nat.le_refl _)) (S.kp.freshB (Nat.le_refl _)) (Nat.ne_of_gt S.ns.lt) (S.alloc emptyD s.toks))
theorem o_dictSet {d:Addr} {kvs:List (Str×Value)} {x:Str} {t:Tok} {v:Value} {o:Obj} {Q:Unit->Shared->Prop} (S:St B L m g s) (hd:g d=some o) (x':OD w kvs o) (hz:kvs.length≤1000)
  (h:∀ s' o',OD w (stored kvs x v) o'->St B L m (put g d o') s'->Q () s'):wpAny (model PG w) A (dictSet d (.str x t) v) Q E s:=by
 have sz:=sizeLine_eq;unfold dictSet;refine wpAny_holding (wpAny_bind (wpAny_pyHash_str ?_));refine wpAny_dictSetHashed_pairs (knd:=PySem.strKind PG w) (isStr_is x t) (x'.dictOf (S.sub hd)) (λh' hd' hs=>?_) (by exact n_t ‹_› (by decide));obtain ⟨o',ho',x''⟩:=OD.of hd';exact h _ _ x'' (S.set hd x'.code hs ho' _)
theorem r_dict1 {ke ve:Expr} {pos:Pos} {Q:Value->Shared->Prop} (S:St B L m g s)
  (h:∀ d s,g d=none->B.base d=none->d≠L->St B L m (put g d emptyD) s->wpAny (model PG w) A (eval ke env) (λkv s₁=>wpAny (model PG w) A (eval ve env) (λvv s₂=>Ex3 λx t g₂=>And4 (kv=.str x t) (g₂ d=some emptyD) (St B L m g₂ s₂) (∀ s' o,OD w [(x,vv)] o->St B L m (put g₂ d o) s'->Q (.ref d) s')) E s₁) E s) :
  wpAny (model PG w) A (eval (.Dict [some ke] [ve] pos) env) Q E s:=by
 refine wpAny_Dict_any rfl rfl (by simp) (by simp) ?_;have S₁:=S.alloc emptyD s.toks;have h₁:=h s.heap.objs.size _ (S.kp.fresh (Nat.le_refl _)) (S.kp.freshB (Nat.le_refl _)) (Nat.ne_of_gt S.ns.lt) S₁;show wpAny _ _ (evalPairs [(eval ke env,do let x <-eval ve env;standAt pos;pure x)]) _ _ _;unfold evalPairs evalPairs;refine wpAny_bind (wpAny_mono h₁ (λkv s₁ h₁=>wpAny_bind (wpAny_holding (wpAny_bind (wpAny_mono h₁ (λvv s₂ h₂=>wpAny_bind (wpAny_standAt (wpAny_pure ?_))) λ_ _ e=>e)))) λ_ _ e=>e);obtain ⟨x,t,g₂,rfl,hd,S₂,hQ⟩:=h₂;refine wpAny_bind (wpAny_holding (wpAny_pure (wpAny_pure ?_)));unfold storeAll;rw [List.forIn_cons];refine wpAny_bind (wpAny_bind (o_dictSet S₂ hd OD.empty (by decide) λs' o ho S'=>wpAny_pure ?_));dsimp only;rw [List.forIn_nil];exact wpAny_pure (hQ _ _ ho S')
theorem o_notInL {l:Addr} {vs:List Value} {ys:List Str} {k:Str} {t:Tok} {Q:Value->Shared->Prop} (hl:s.heap.IsList l vs.toArray) (hi:StrsAre vs ys) (h:Q (.bool (!(ys.any (· == k)))) s):wpAny (model PG w) A (compareOp .NotIn (.str k t) (.ref l)) Q E s:=notin_list_strs hl hi h
theorem o_inL {l:Addr} {vs:List Value} {ys:List Str} {k:Str} {t:Tok} {Q:Value->Shared->Prop} (hl:s.heap.IsList l vs.toArray) (hi:StrsAre vs ys) (h:Q (.bool (ys.any (· == k))) s):wpAny (model PG w) A (compareOp .In (.str k t) (.ref l)) Q E s:=in_list_strs hl hi h
theorem O_rev {l r:Addr} {vs:List Value} {o:Obj} (S:St B L m g s) (hh:A.handled=none) (h:Has B g l o) (x:OL vs o) (hr:s.heap.IsRevIter r l ((vs.length:Int) - 1)) (a:Away B L g [r] s.heap) :
  Opens B A L m g s (.ref r) vs.length (λi v=>vs[vs.length - 1 - i]?=some v) [l]:=by
 intro Q E hQ;have hl:=x.has h S.kp
 have hlt:l≠r:=by
  rintro rfl;rcases h with h|h
  ·rw [a.g _ (.head _)] at h;cases h
  ·rw [a.base _ (.head _)] at h;cases h
 refine wpAny_pyIter_revIter hr ?_;have W:=Walks.listRev (prog:=PG) (w:=w) (A:=A) hh r l hlt vs.toArray;simp only [List.size_toArray,List.getElem?_toArray] at W;refine hQ _ _ _ _ [r] _ S W (λi h st=>m1 (st.2.1.imp λ_=>And.left)) a (λb hb=>hb) ⟨Nat.zero_le _,by simpa using hr,hl⟩ (own1 h)
theorem o_reversed {l:Addr} {vs:List Value} {o:Obj} {Q:Value->Shared->Prop} (S:St B L m g s) (h:Has B g l o) (x:OL vs o)
  (hq:∀ s' r,St B L m g s'->s'.heap.IsRevIter r l ((vs.length:Int) - 1)->Away B L g [r] s'.heap->Q (.ref r) s'):wpAny (model PG w) A (call (.type "reversed") [.ref l]) Q E s:=by
 refine call_reversed_list (x.has h S.kp) ?_;have e:(s.heap.push (revObj l ((vs.toArray.size:Int) - 1))).get? s.heap.objs.size=some (revObj l ((vs.toArray.size:Int) - 1)):=Heap.get?_push_size _ rfl;exact hq _ _ (S.push _ s.toks) ⟨_,e,rfl,rfl⟩ (S.awayNew (Nat.le_refl _) e)
end
structure Ent where
 n:Str
 f:Addr
 rl:Addr
 dd:Addr
 p:Str
 row:List Str
noncomputable def entKvs (es:List Ent):List (Str×Value):=es.map λe=>(e.n,.ref e.f)
structure Things (w:World) (g:PH) (d:Addr) (kvs:List (Str×Value)) (es:List Ent):Prop where
 od:∃ o,g d=some o∧OD w kvs o
 th:∀ e∈es,Thing w g e.f e.rl e.dd e.p e.row
 nd:(es.map (·.rl)).Nodup
 dd:∀ e∈es,e.dd≠d
noncomputable abbrev Th:=Str×Str×List Str
noncomputable def Ent.th (e:Ent):Th:=(e.n,e.p,e.row)
noncomputable def hang (ths:List Th) (par x:Str):Option (List Th):=
 match ths.find? (λth=>th.1=par) with
 |some (_,p,row)=>if p.length≤900∧x.length≤90∧row.length≤900∧ths.length≤900∧¬ x∈ths.map (·.1) then
   some ((ths.map λth=>if th.1=par then (th.1,th.2.1,th.2.2 ++ [bnF (joinF th.2.1 x)]) else th) ++ [(x,joinF p x,[joinF p x])]) else none
 |none=>none
noncomputable def eHang (es:List Ent) (e₀:Ent) (x:Str) (f rl dd:Addr):List Ent:=
 (es.map λe=>if e.n=e₀.n then { e with row:=e.row ++ [bnF (joinF e.p x)] } else e) ++ [⟨x,f,rl,dd,joinF e₀.p x,[joinF e₀.p x]⟩]
theorem hang_ents {es:List Ent} {par x:Str} {ths:List Th} (h:hang (es.map Ent.th) par x=some ths):∃ e∈es,e.n=par∧valueAt (entKvs es) par=some (.ref e.f)∧e.p.length≤900∧x.length≤90∧e.row.length≤900∧es.length≤900∧x∉es.map (·.n) ∧
  ∀ f rl dd,(eHang es e x f rl dd).map Ent.th=ths:=by
 unfold hang at h;cases hf:es.find? (λe=>e.n=par) with
 |none=>
  have:(es.map Ent.th).find? (λth=>th.1=par)=none:=by
   rw [List.find?_map];show Option.map _ (es.find? ((λth:Th=>decide (th.1=par)) ∘ Ent.th))=none;rw [show ((λth:Th=>decide (th.1=par)) ∘ Ent.th)=(λe=>decide (e.n=par)) from rfl,hf];rfl
  rw [this] at h;cases h
 |some e=>
  have hth:(es.map Ent.th).find? (λth=>th.1=par)=some e.th:=by
   rw [List.find?_map];show Option.map _ (es.find? ((λth:Th=>decide (th.1=par)) ∘ Ent.th))=_;rw [show ((λth:Th=>decide (th.1=par)) ∘ Ent.th)=(λe=>decide (e.n=par)) from rfl,hf];rfl
  have hn:e.n=par:=by have:=List.find?_some hf;simpa using this
  rw [hth] at h;simp only [Ent.th] at h
  by_cases hc:e.p.length≤900∧x.length≤90∧e.row.length≤900∧(es.map Ent.th).length≤900∧¬ x∈(es.map Ent.th).map (·.1)
  ·have h:=h.symm.trans (if_pos hc);cases h;refine ⟨e,List.mem_of_find?_eq_some hf,hn,?_,hc.1,hc.2.1,hc.2.2.1,by simpa using hc.2.2.2.1,by simpa [Ent.th] using hc.2.2.2.2,λf rl dd=>?_⟩
   ·unfold valueAt entKvs;rw [List.find?_map];show Option.map _ (Option.map _ (es.find? ((λkv:Str×Value=>decide (kv.1=par)) ∘ λe=>(e.n,Value.ref e.f))))=_;rw [show ((λkv:Str×Value=>decide (kv.1=par)) ∘ λe:Ent=>(e.n,Value.ref e.f))=(λe=>decide (e.n=par)) from rfl,hf];rfl
   ·unfold eHang;rw [List.map_append,List.map_map,List.map_map,hn]
    congr 1
    refine List.map_congr_left λy _=>?_;simp only [Function.comp,Ent.th]
    by_cases hy:y.n=par
    ·rw [if_pos hy];exact (if_pos hy).symm
    ·rw [if_neg hy];exact (if_neg hy).symm
  ·have h:=h.symm.trans (if_neg hc);cases h
theorem entKvs_hang {es:List Ent} {e₀:Ent} {x:Str} {f rl dd:Addr} (hx:x∉es.map (·.n)):stored (entKvs es) x (.ref f)=entKvs (eHang es e₀ x f rl dd):=by
 unfold stored;rw [if_neg]
 ·unfold entKvs eHang;rw [List.map_append,List.map_map]
  congr 1
  refine List.map_congr_left λy _=>?_;simp only [Function.comp]
  split <;> rfl
 ·simp only [Bool.not_eq_true,List.any_eq_false,decide_eq_true_eq];intro kv hkv;unfold entKvs at hkv;obtain ⟨e,he,rfl⟩:=List.mem_map.mp hkv;rintro rfl;exact hx (List.mem_map.mpr ⟨e,he,rfl⟩)
section
variable {w:World} {B:Bs w} {A:Around} {L:Addr} {m m':Str->Option Value} {g:PH} {s:Shared} {env:Env} {E:Value->Shared->Prop} {pl:Sem Bool}
theorem Thing.listAt {f rl d:Addr} {p:Str} {row:List Str} (h:Thing w g f rl d p row):Ex2 λvs o=>g rl=some o∧OL vs o:=by
 obtain ⟨fd,od,orow,oc1,oc2,vs,mA,f1,f2,c1,c2,t,t',y⟩:=h;exact ⟨vs,orow,y.rl_,y.ol_⟩
theorem c_sub {d:Addr} {kvs:List (Str×Value)} {es:List Ent} {e₀:Ent} {x:Str} {tn:Tok} {Q:Value->Shared->Prop} (S:St B L m g s) (T:Things w g d kvs es) (he:e₀∈es) (hN:(es.map (·.n)).Nodup) (hr:Rm A 5) (hh:A.handled=none)
  (ha:e₀.p.length≤900) (hb:x.length≤90) (hz:e₀.row.length≤900)
  (h:∀ s' f rl dd g',Chg [e₀.rl] g g'->g f=none->g rl=none->g dd=none->Things w g' d kvs (eHang es e₀ x f rl dd)->St B L m g' s'->Q (.ref f) s'):wpAny (model PG w) A (call (.ref 291) [.ref e₀.f,.str x tn]) Q E s:=by
 refine S.call λr K back=>?_;refine r_defCall (codeAny_mono (sp_sub (T.th _ he) K hr hh ha hb (by exact n_t ‹_› (by decide))) λr s' hR=>?_);refine gq λ_ z2=>?_;obtain ⟨f,rl,dd,g',rfl,K',ch,nf,nl,ndd,T1,T2⟩:=hR;obtain ⟨o,ho,od⟩:=T.od;obtain ⟨vs,oL,hoL,hol⟩:=(T.th _ he).listAt;refine z2 ?_;have hL:Lists g [e₀.rl]:=.one hoL hol
 have inj:∀ e∈es,e.rl=e₀.rl->e=e₀:=by
  have:=T.nd;intro e h1 h2
  by_cases q:e=e₀
  ·exact q
  ·obtain ⟨i,hi,rfl⟩:=List.getElem_of_mem h1;obtain ⟨j,hj,rfl⟩:=List.getElem_of_mem he;have hij:i≠j:=by rintro rfl;exact q rfl
   exact absurd h2 (by
    have:=(List.nodup_iff_pairwise_ne (l:=es.map (·.rl))).mp this;have hp:=List.pairwise_iff_getElem.mp this;rcases Nat.lt_or_gt_of_ne hij with h|h
    ·have:=hp i j (by simpa using hi) (by simpa using hj) h;simpa using this
    ·have:=hp j i (by simpa using hj) (by simpa using hi) h;simpa using Ne.symm this)
 have injN:∀ e∈es,e.n=e₀.n->e=e₀:=by
  intro e h1 h2
  by_cases q:e=e₀
  ·exact q
  ·obtain ⟨i,hi,rfl⟩:=List.getElem_of_mem h1;obtain ⟨j,hj,rfl⟩:=List.getElem_of_mem he;have hij:i≠j:=by rintro rfl;exact q rfl
   exact absurd h2 (by
    have hp:=List.pairwise_iff_getElem.mp ((List.nodup_iff_pairwise_ne (l:=es.map (·.n))).mp hN);rcases Nat.lt_or_gt_of_ne hij with h|h
    ·have:=hp i j (by simpa using hi) (by simpa using hj) h;simpa using this
    ·have:=hp j i (by simpa using hj) (by simpa using hi) h;simpa using Ne.symm this)
 refine h s' f rl dd g' ch nf nl ndd ⟨⟨o,ch _ _ (hL.not ho (by rw [od.cls];intro e;exact absurd (Value.type.inj e) (by decide))) ho,od⟩,λe hm=>?_,?_,λe hm=>?_⟩ (back _ _ K')
 ·unfold eHang at hm;rcases List.mem_append.mp hm with hm|hm
  ·obtain ⟨e',he',rfl⟩:=List.mem_map.mp hm
   by_cases q:e'.n=e₀.n
   ·have:=injN _ he' q;subst this;rw [if_pos rfl];exact T1
   ·rw [if_neg q];exact (T.th _ he').chg ch hL (by simp only [List.mem_singleton];intro e;exact q (by rw [inj _ he' e]))
  ·cases List.mem_singleton.mp hm;exact T2
 ·unfold eHang;rw [List.map_append,List.map_map]
  have:(es.map ((λe=>e.rl) ∘ λe=>if e.n=e₀.n then { e with row:=e.row ++ [bnF (joinF e.p x)] } else e))=es.map (·.rl):=List.map_congr_left λy _=>by
   simp only [Function.comp];split <;> rfl
  rw [this,List.nodup_append];refine ⟨T.nd,by simp,λa ha b hb=>?_⟩;simp at hb;subst hb;refine gq λ_ z3=>?_;obtain ⟨e,he',rfl⟩:=List.mem_map.mp ha;obtain ⟨_,o',ho',_⟩:=(T.th _ he').listAt;refine z3 ?_;exact ne_none ho' nl
 ·unfold eHang at hm;rcases List.mem_append.mp hm with hm|hm
  ·obtain ⟨e',he',rfl⟩:=List.mem_map.mp hm;have:=T.dd _ he'
   split <;> exact this
  ·cases List.mem_singleton.mp hm;exact (ne_none ho ndd).symm
theorem Things.set {d:Addr} {kvs kvs':List (Str×Value)} {es:List Ent} {o':Obj} (T:Things w g d kvs es) (ho:OD w kvs' o'):Things w (put g d o') d kvs' es:=by
 obtain ⟨o,h1,h2⟩:=T.od;refine ⟨⟨o',put_self ..,ho⟩,λe he=>(T.th e he).chgD (Chg.put (by simp)) h1 h2.cls ?_ (T.dd _ he),T.nd,T.dd⟩;obtain ⟨_,es,ep,e,_⟩:=h2;exact ⟨es,ep,e⟩
theorem Things.chg {d:Addr} {kvs:List (Str×Value)} {es:List Ent} {g':PH} (T:Things w g d kvs es) (k:Sub g g'):Things w g' d kvs es:=by
 obtain ⟨o,h1,h2⟩:=T.od;exact ⟨⟨o,k _ _ h1,h2⟩,λe he=>(T.th e he).sub k,T.nd,T.dd⟩
end
inductive SKvs:List (Str×Value)->List (Str×Str)->Prop
 |nil:SKvs [] []
 |cons {k v:Str} {t:Tok} {kvs:List (Str×Value)} {tbl:List (Str×Str)}:SKvs kvs tbl->SKvs ((k,.str v t) :: kvs) ((k,v) :: tbl)
theorem SKvs.keys {kvs:List (Str×Value)} {tbl:List (Str×Str)} (h:SKvs kvs tbl):kvs.map (·.1)=tbl.map (·.1):=by
 induction h with
 |nil=>rfl
 |cons _ ih=>exact congrArg (List.cons _) ih
theorem SKvs.len {kvs:List (Str×Value)} {tbl:List (Str×Str)} (h:SKvs kvs tbl):kvs.length=tbl.length:=by
 simpa using congrArg List.length h.keys
theorem SKvs.at {x y:Str} {kvs:List (Str×Value)} {tbl:List (Str×Str)} (q:SKvs kvs tbl) (h:tbl.lookup x=some y):∃ t,valueAt kvs x=some (.str y t):=by
 induction q with
 |nil=>cases h
 |@cons k v t kvs tbl q ih=>
  rw [List.lookup_cons] at h;unfold valueAt;rw [List.find?_cons]
  by_cases e:x=k
  ·subst e;simp at h;subst h;exact ⟨t,by simp⟩
  ·have e':(x == k)=false:=by simpa using e
   rw [e'] at h;have e2:decide (k=x)=false:=by simpa using Ne.symm e
   simp only [e2];exact ih h
noncomputable def SL (g:PH) (l:Addr) (ss:List Str):Prop:=Ex2 λo vs=>And3 (g l=some o) (OL vs o) (StrsAre vs ss)
noncomputable def SD (w:World) (g:PH) (d:Addr) (tbl:List (Str×Str)):Prop:=Ex2 λo kvs=>And3 (g d=some o) (OD w kvs o) (SKvs kvs tbl)
section
variable {w:World} {B:Bs w} {A:Around} {L:Addr} {m m':Str->Option Value} {g g':PH} {s:Shared} {env:Env} {E:Value->Shared->Prop} {pl:Sem Bool}
theorem SL.sub {l:Addr} {ss:List Str} (h:SL g l ss) (k:Sub g g'):SL g' l ss:=let ⟨o,vs,a,b,c⟩:=h;⟨o,vs,k _ _ a,b,c⟩
theorem SD.sub {d:Addr} {tbl:List (Str×Str)} (h:SD w g d tbl) (k:Sub g g'):SD w g' d tbl:=let ⟨o,vs,a,b,c⟩:=h;⟨o,vs,k _ _ a,b,c⟩
theorem SL.chg {l:Addr} {ss:List Str} {X:List Addr} (h:SL g l ss) (k:Chg X g g') (hX:l∉X):SL g' l ss:=let ⟨o,vs,a,b,c⟩:=h;⟨o,vs,k _ _ hX a,b,c⟩
theorem SD.chgL {d:Addr} {tbl:List (Str×Str)} {X:List Addr} (h:SD w g d tbl) (k:Chg X g g') (hX:Lists g X):SD w g' d tbl:=by
 obtain ⟨o,vs,a,b,c⟩:=h;exact ⟨o,vs,k _ _ (hX.not a (by rw [b.cls];intro e;exact absurd (Value.type.inj e) (by decide))) a,b,c⟩
theorem x_iteT {c:Bool} {b o:List Stmt} {Q:Flow->Shared->Prop} (hc:c=true) (h:wpAny (model PG w) A (execs b env) Q E s):wpAny (model PG w) A (execs (if c=true then b else o) env) Q E s:=by rw [if_pos hc];exact h
theorem x_iteF {c:Bool} {b o:List Stmt} {Q:Flow->Shared->Prop} (hc:c=false) (h:wpAny (model PG w) A (execs o env) Q E s):wpAny (model PG w) A (execs (if c=true then b else o) env) Q E s:=by rw [if_neg (by rw [hc];decide)];exact h
theorem call_fnA {k:Nat} {R:Result->Shared->Prop} {name qual:Str} {params:Arguments} {body:List Stmt} {scope:Scope} {dV kV doc pm cdv ct oc:Value} {an od:Option Addr} {osl:Array (Option Value)} {f:Addr} {args:Args} {binds:List (Str×Value)}
  (K:Kp B g s) (hr:Rm A (k + 1)) (hh:A.handled=none) (ho:(HF w).lookup f=some ⟨oc,od,.func (fnX name qual params body scope [] dV kV doc pm an cdv ct),osl⟩) (hcd:codeIn (HF w) cdv qual=true)
  (hbind:BindsTo s (fnX name qual params body scope [] dV kV doc pm an cdv ct) args binds) (hloc:(binds.all λx=>decide (scope.names.lookup x.1=some .local))=true)
  (h:∀ A' L s' E',Rm A' k->A'.handled=none->St B L (λy=>binds.reverse.lookup y) g s' ->
   ∀ R':Flow->Shared->Prop,(∀ fl s',R (.ok (.ret (match fl with|.ret v=>v|_=>.none))) s'->R' fl s')->wpAny (model PG w) A' (execs body (envX qual scope L f cdv [])) R' E' s')
  (hcell:∀ x∈scope.names,x.2≠.cell:=by decide) (hco:scope.isCoroutine=false:=by rfl) (hgen:scope.isGenerator=false:=by rfl) (hk:scope.kind=.function:=by rfl):codeAny (model PG w) A (.call (.ref f) args) R s:=
 call_fn K hr ho hcd hbind hloc (λL s' E' S=>h _ L s' E' hr.deeper hh S _ λ_ _ h=>h) hcell hco hgen hk
theorem call_fnBA {k:Nat} {R:Result->Shared->Prop} {name qual:Str} {params:Arguments} {body:List Stmt} {scope:Scope} {dV kV doc pm cdv ct oc:Value} {an od:Option Addr} {osl:Array (Option Value)} {f:Addr} {args:Args} (P:List (Str×Value)->PH->Prop)
  (K:Kp B g s) (hr:Rm A (k + 1)) (hh:A.handled=none) (ho:(HF w).lookup f=some ⟨oc,od,.func (fnX name qual params body scope [] dV kV doc pm an cdv ct),osl⟩) (hcd:codeIn (HF w) cdv qual=true)
  (hbind:∀ (Q:List (Str×Value)->Shared->Prop) (E:Value->Shared->Prop),(∀ binds g' s',Kp B g' s'->P binds g'->(binds.all λx=>decide (scope.names.lookup x.1=some .local))=true->Q binds s')->wpAny (model PG w) A.in1 (bindArgs (fnX name qual params body scope [] dV kV doc pm an cdv ct) args) Q E s)
  (h:∀ A' binds g' L s' E',Rm A' k->A'.handled=none->P binds g'->St B L (λy=>binds.reverse.lookup y) g' s' ->
   ∀ R':Flow->Shared->Prop,(∀ fl s',R (.ok (.ret (match fl with|.ret v=>v|_=>.none))) s'->R' fl s')->wpAny (model PG w) A' (execs body (envX qual scope L f cdv [])) R' E' s')
  (hcell:∀ x∈scope.names,x.2≠.cell:=by decide) (hco:scope.isCoroutine=false:=by rfl) (hgen:scope.isGenerator=false:=by rfl) (hk:scope.kind=.function:=by rfl):codeAny (model PG w) A (.call (.ref f) args) R s:=
 call_fnB P K hr ho hcd hbind (λbinds g' L s' E' hP S=>h _ binds g' L s' E' hr.deeper hh hP S _ λ_ _ h=>h) hcell hco hgen hk
theorem x_swap2 {x y:Str} {elts:List Expr} {k:Nat} {tpos pos:Pos} {value:Expr} {rest:List Stmt} {Q:Flow->Shared->Prop} (hh:A.handled=none)
  (h:wpAny (model PG w) A (eval value env) (λv s₁=>Ex7 λt a b m g B L=>And4 (v=.ref t) (s₁.heap.IsTuple t [a,b].toArray) (St (w:=w) B L m g s₁) (∀ s₂,St B L m g s₂->wpAny (model PG w) A (storeName env y b) (λ_ s₃=>wpAny (model PG w) A (storeName env x a) (λ_ s₄=>wpAny (model PG w) A (execs rest env) Q E s₄) E s₃) E s₂)) E s)
  (hs:swapsWithSole [.Tuple elts k tpos] value pos.line env=pure false:=by rfl) (hw:swappedStores [.Tuple elts k tpos] value env=pure (some [x,y]):=by with_unfolding_all rfl) :
  wpAny (model PG w) A (execs (.Assign [.Tuple elts k tpos] value pos :: rest) env) Q E s:=by
 refine wpAny_execs_cons (Assign_Tuple_swapped (names:=[x,y]) (wpAny_mono h (λv s₁ h₁=>?_) λ_ _ e=>e) hs hw);obtain ⟨t,a,b,m,g,B,L,rfl,ht,S,h₁⟩:=h₁;show wpAny _ _ (unpackItems (.ref t) ([a,b]:List Value).toArray.size none) _ _ _;refine unpackItems_tuple (items:=[a,b].toArray) hh ht λh' hx=>?_;change wpAny _ _ (assignInOrder [bindName env y,bindName env x] [b,a]) _ _ _;have hk:∀ b o,s₁.heap.get? b=some o->h'.get? b=some o:=λb o e=>hx b o (Nat.ne_of_lt (Heap.lt_size e)) e;have S₂:St B L m g { s₁ with heap:=h' }:=S.grow hk s₁.toks;have h₂:=h₁ _ S₂;refine ai_cons (bindName_ (wpAny_mono h₂ (λ_ s₂ h₂=>?_) λ_ _ e=>e));exact ai_cons (bindName_ (wpAny_mono h₂ (λ_ s₃ h₃=>ai_nil h₃) λ_ _ e=>e))
theorem t_sd {value sl:Expr} {d:Addr} {tbl:List (Str×Str)} {x y:Str} {t:Tok} {Q:Value->Shared->Prop} (S:St B L m g s) (hd:SD w g d tbl) (hv:tbl.lookup x=some y) (h:∀ s' u,St B L m g s'->Q (.str y u) s')
  (hs:subscripted sl false (.ref d) (.str x t)=operate [.ref d,.str x t] (getItem (.ref d) (.str x t)):=by with_unfolding_all rfl) :
  wpAny (model PG w) A (subscriptTail value sl (.ref d) (.str x t)) Q E s:=by
 refine gq λ_ z2=>?_;obtain ⟨o,kvs,h1,h2,h3⟩:=hd;obtain ⟨u,hu⟩:=h3.at hv;refine z2 ?_;exact t_dict S (h2.dictOf (S.sub h1)) hu (λs' S'=>h _ _ S') hs
end
noncomputable def root0:List Th:=[(Str.ofString "",Str.ofString "/",[Str.ofString "/"])]
noncomputable def cycSeq (f:Str->Str) (came:List Str):List Str->Str->List (Str×Str)
 |[],_=>[]
 |x :: r,e=>if x∈came then cycSeq f came r e else (f x,e) :: cycSeq f came r (f x)
noncomputable def cycEnd (f:Str->Str) (came:List Str):List Str->Str->Str
 |[],e=>e
 |x :: r,e=>if x∈came then cycEnd f came r e else cycEnd f came r (f x)
theorem cycSeq_n {f:Str->Str} {came:List Str} {e:Str}:cycSeq f came [] e=[]:=rfl
theorem cycSeq_c {f:Str->Str} {came r:List Str} {x e:Str}:cycSeq f came (x :: r) e=if x∈came then cycSeq f came r e else (f x,e) :: cycSeq f came r (f x):=rfl
theorem cycEnd_n {f:Str->Str} {came:List Str} {e:Str}:cycEnd f came [] e=e:=rfl
theorem cycEnd_c {f:Str->Str} {came r:List Str} {x e:Str}:cycEnd f came (x :: r) e=if x∈came then cycEnd f came r e else cycEnd f came r (f x):=rfl
noncomputable def hangAll (ths:List Th) (seq:List (Str×Str)):Option (List Th):=seq.foldlM (λt p=>hang t p.2 p.1) ths
section
variable {w:World} {B:Bs w} {A:Around} {L:Addr} {m m':Str->Option Value} {g g':PH} {s:Shared} {env:Env} {E:Value->Shared->Prop} {pl:Sem Bool}
noncomputable def rootE (f rl dd:Addr):Ent:=⟨Str.ofString "",f,rl,dd,Str.ofString "/",[Str.ofString "/"]⟩
structure Grow (w:World) (g₀ g:PH) (d:Addr) (es:List Ent) (ths:List Th):Prop where
 T:Things w g d (entKvs es) es
 e:es.map Ent.th=ths
 nd:(es.map (·.n)).Nodup
 sub:Sub g₀ g
 nrl:∀ e∈es,g₀ e.rl=none
 nd₀:g₀ d=none
theorem Ent.ths_find {es:List Ent} {ths:List Th} {par x:Str} {ths':List Th} (h:es.map Ent.th=ths) (hh:hang ths par x=some ths'):∃ e∈es,e.n=par∧valueAt (entKvs es) par=some (.ref e.f)∧e.p.length≤900∧x.length≤90∧e.row.length≤900∧es.length≤900∧x∉es.map (·.n) ∧
  ∀ f rl dd,(eHang es e x f rl dd).map Ent.th=ths':=by subst h;exact hang_ents hh
theorem eHang_names {es:List Ent} {e:Ent} {x:Str} {f rl dd:Addr}:(eHang es e x f rl dd).map (·.n)=es.map (·.n) ++ [x]:=by
 unfold eHang;rw [List.map_append,List.map_map]
 congr 1
 exact List.map_congr_left λy _=>by simp only [Function.comp];split <;> rfl
theorem eHang_rl {es:List Ent} {e:Ent} {x:Str} {f rl dd:Addr}:∀ e'∈eHang es e x f rl dd,e'.rl=rl∨∃ e''∈es,e''.rl=e'.rl:=by
 intro e' h;unfold eHang at h;rcases List.mem_append.mp h with h|h
 ·obtain ⟨e'',h1,rfl⟩:=List.mem_map.mp h;exact .inr ⟨e'',h1,by split <;> rfl⟩
 ·cases List.mem_singleton.mp h;exact .inl rfl
theorem c_hang {g₀:PH} {d:Addr} {es:List Ent} {ths ths':List Th} {par x:Str} {tn:Tok} {Q:Value->Shared->Prop} {v:Value} (S:St B L m g s) (G:Grow w g₀ g d es ths) (hg:hang ths par x=some ths') (hv:valueAt (entKvs es) par=some v) (hr:Rm A 5) (hh:A.handled=none)
  (h:∀ s' f g',St B L m g' s'->(∀ (y:Str) t (Q:Unit->Shared->Prop) E s₁ m L,y=x->St B L m g' s₁->(∀ s₂ es' g₂,Grow w g₀ g₂ d es' ths'->St B L m g₂ s₂->Q () s₂)->wpAny (model PG w) A (setItem (.ref d) (.str y t) (.ref f)) Q E s₁)->Sub g₀ g'->(Ex2 λo kvs=>g' d=some o∧OD w kvs o)->Q (.ref f) s'):wpAny (model PG w) A (call (.ref 291) [v,.str x tn]) Q E s:=by
 obtain ⟨e₀,he,hn,hva,hp,hx,hrow,hes,hnx,hths⟩:=Ent.ths_find G.e hg;rw [hv] at hva;cases hva;refine c_sub S G.T he G.nd hr hh hp hx hrow λs' f rl dd g' ch nf nl ndd T' S'=>?_;have hs:Sub g₀ g':=λb o e=>ch b o (λhb=>by cases List.mem_singleton.mp hb;rw [G.nrl _ he] at e;cases e) (G.sub _ _ e);obtain ⟨o,ho,od⟩:=T'.od;refine h s' f g' S' (λy t Q E s₁ m L hy S₁ hQ=>?_) hs ⟨o,_,ho,od⟩;subst hy;have hl:(entKvs es).length≤900:=by unfold entKvs;simpa using hes
 have sz:=sizeLine_eq;refine o_setD S₁ ho od (by exact n_t ‹_› (by decide)) λs₂ o' od' S₂=>?_;rw [entKvs_hang (f:=f) (rl:=rl) (dd:=dd) (e₀:=e₀) hnx] at od';refine hQ _ _ _ ⟨T'.set od',hths _ _ _,?_,λb o e=>?_,λe he'=>?_,G.nd₀⟩ S₂
 ·rw [eHang_names,List.nodup_append];exact ⟨G.nd,by simp,λa ha b hb=>by simp at hb;subst hb;rintro rfl;exact hnx ha⟩
 ·rw [put_ne (by rintro rfl;rw [G.nd₀] at e;cases e)];exact hs _ _ e
 ·rcases eHang_rl _ he' with h|⟨e'',h1,h2⟩
  ·rw [h];exact none_sub nl G.sub
  ·rw [<-h2];exact G.nrl _ h1
theorem r_root {pos dpos cpos npos spos:Pos} {k k2:Nat} {x y:Str} {tn:Str} {Q:Value->Shared->Prop} (S:St B L m g s) (hr:Rm A 4)
  (h:∀ s' d es g',Grow w g g' d es root0->St B L m g' s'->Q (.ref d) s') (hx:x=Str.ofString "":=by rfl) (hy:y=Str.ofString "/":=by rfl) (ht:tn=Str.ofString "_law_thing":=by rfl)
  (hk:env.scope.kind=.function:=by rfl) (hkn:env.kindOf tn=some .globalImplicit:=by rfl) (hg:env.globals=mainGlobals:=by rfl) :
  wpAny (model PG w) A (eval (.Dict [some (.Constant (.str x) k pos)] [.Call (.Name tn npos) [.Constant (.str y) k2 spos] [] cpos] dpos) env) Q E s:=by
 subst hx hy ht;refine r_dict1 S λd s₁ nd nb nL S₁=>?_;refine r_str S₁ λs₂ tk S₂=>?_;refine r_callName (r_global S₂ (gl_tab _ (by with_unfolding_all rfl)) ?_ hk hkn hg);refine r_cwDef (fn_tab _ (by decide)) ?_;refine r_trees (r_str S₂ λs₃ tk₃ S₃=>r_trees0 ⟨S₃.In,?_⟩);refine c_thing S₃ (hr.le (by decide)) λs₄ f rl dd g₂ sub nf nl ndd T S₄=>?_;have hd:=sub _ _ (put_self (g:=g) (a:=d) (o:=emptyD));refine ⟨_,_,g₂,rfl,hd,S₄,λs₅ o od S₅=>h s₅ d [rootE f rl dd] _ ?_ S₅⟩;have sub0:Sub g g₂:=(Sub.put nd).trans sub;have ned:dd≠d:=by rintro rfl;rw [put_self] at ndd;cases ndd
 refine ⟨⟨⟨o,put_self ..,od⟩,λe he=>?_,by simp [rootE],λe he=>?_⟩,rfl,by simp [rootE],λb o e=>?_,λe he=>?_,nd⟩
 ·cases List.mem_singleton.mp he;exact T.chgD (Chg.put (by simp)) hd rfl ⟨_,_,rfl⟩ ned
 ·cases List.mem_singleton.mp he;exact ned
 ·rw [put_ne (ne_none e nd)];exact sub0 _ _ e
 ·cases List.mem_singleton.mp he;exact none_sub nl (Sub.put nd)
end
noncomputable def tget (tbl:List (Str×Str)) (x:Str):Str:=(tbl.lookup x).getD (Str.ofString "")
theorem tget_of {tbl:List (Str×Str)} {x y:Str} (h:tbl.lookup x=some y):tget tbl x=y:=by unfold tget;rw [h];rfl
theorem hang_par {ths ths':List Th} {par x:Str} {es:List Ent} (he:es.map Ent.th=ths) (h:hang ths par x=some ths'):∃ v,valueAt (entKvs es) par=some v:=by
 obtain ⟨e,_,_,h,_⟩:=Ent.ths_find he h;exact ⟨_,h⟩
theorem hangAll_cons {ths ths':List Th} {x par:Str} {r:List (Str×Str)} (h:hangAll ths ((x,par) :: r)=some ths'):∃ t,hang ths par x=some t∧hangAll t r=some ths':=by
 unfold hangAll at h;rw [List.foldlM_cons] at h;cases q:hang ths par x with
 |none=>rw [q] at h;cases h
 |some t=>rw [q] at h;exact ⟨t,rfl,h⟩
section
variable {w:World} {B:Bs w} {A:Around} {L:Addr} {m m':Str->Option Value} {g g':PH} {s:Shared} {env:Env} {E:Value->Shared->Prop} {pl:Sem Bool}
theorem sp_laid {dS lC:Addr} {tbl:List (Str×Str)} {came ks:List Str} {ths:List Th} (K:Kp B g s) (hr:Rm A 8) (hh:A.handled=none) (hS:SD w g dS tbl) (hC:SL g lC came)
  (hks:∀ ss:List Str,ss.Perm (tbl.map (·.1))->sortedS ss=true->ss=ks) (hin:∀ x∈ks,∃ y,tbl.lookup x=some y) (hca:∀ x∈came,∃ y,tbl.lookup x=some y) (hz:tbl.length < 64) (hzc:came.length≤1000)
  (hg:hangAll root0 (cycSeq (tget tbl) came ks (Str.ofString "") ++ came.reverse.map λx=>(x,tget tbl x))=some ths) :
  codeAny (model PG w) A (.call (.ref 319) ⟨[.ref dS,.ref lC],[]⟩) (λr s'=>Ex5 λT d es g' tk=>And4 (r=.ok (.ret (.ref T))) (s'.heap.IsTuple T [Value.ref d,.str (cycEnd (tget tbl) came ks (Str.ofString "")) tk].toArray) (Kp B g' s') (Grow w g g' d es ths)) s:=by
 refine call_fnA (binds:=[(Str.ofString "sent",.ref dS),(Str.ofString "came",.ref lC)]) K hr hh (by rfl) (by kernel_rfl) (BindsTo.of_eq rfl) (by rfl) (λA L s E hr hh S=>?_);intro _ _;refine in_envX ?_;intro _;walk_at "J";refine x_swap2 (x:=Str.ofString "things") (y:=Str.ofString "end") ?hh ?_ ?hs ?hw
 ((case hs=>rfl);(case hw=>with_unfolding_all rfl);(case hh=>assumption))
 walk_at "J";refine r_root (x:=Str.ofString "") (y:=Str.ofString "/") (tn:=Str.ofString "_law_thing") S (hr.le (by decide)) λs d es g₁ G S=>?_;walk_at "J";refine n_tuple ‹_› λs l hl S=>?_;refine ⟨l,_,_,_,_,_,_,rfl,hl,S,λs S=>?_⟩;walk_at "J";obtain ⟨oS,kvs,hS1,hS2,hS3⟩:=hS.sub G.sub;refine o_sortedD ‹_› hh (sysNe S hS1) (.inl hS1) hS2 (by rw [hS3.len];exact hz) λs D us ss' e S hD aL hus hp hsd=>?_;rw [hS3.keys] at hp;have:=hks _ hp hsd;subst this;have lu:=hus.len_eq;walk_at "J"
 refine for_O (O_listT S hh ⟨_,hD,rfl,e,rfl⟩ aL) (λi m' g'=>Ex4 λes t e te=>And7 (Grow w g g' d es t) (m' (Str.ofString "things")=some (.ref d)) (m' (Str.ofString "sent")=some (.ref dS)) (m' (Str.ofString "came")=some (.ref lC)) (m' (Str.ofString "end")=some (.str e te)) (hangAll t (cycSeq (tget tbl) came (ss'.drop i) e ++ came.reverse.map λx=>(x,tget tbl x))=some ths) (cycEnd (tget tbl) came (ss'.drop i) e=cycEnd (tget tbl) came ss' (Str.ofString ""))) (λ_ _ _=>False)
  ⟨es,_,_,_,G,by walk_at "J.m",by walk_at "J.m",by walk_at "J.m",by walk_at "J.m",hg,rfl⟩ (λi m' g' hI b hb o' e=>by cases hb) ?_ ?_ (λ_ _ _ _ h=>h.elim)
 ·rintro i v m' g' s₁ B' E₁ _ hi hv ⟨es,t,en,te,G,h1,h2,h3,h4,h5,h6⟩ S₁;refine gq λ_ z2=>?_;obtain ⟨x,tx,rfl,hx⟩:=hus.item _ _ hv
  have hd:ss'.drop i=x :: ss'.drop (i + 1):=by
   have hi':i < ss'.length:=by exact Nat.lt_of_lt_of_eq ‹_› ‹_›
   rw [List.drop_eq_getElem_cons hi'];rw [List.getElem?_eq_getElem hi'] at hx;cases hx;rfl
  obtain ⟨y,hy⟩:=hin x (List.mem_of_getElem? hx);refine z2 ?_;rw [hd] at h5 h6;have hfy:tget tbl x=y:=tget_of hy;walk_at "J";obtain ⟨oC,vC,hC1,hC2,hC3⟩:=hC.sub G.sub;refine o_notInL (hC2.isList (St.sub ‹_› hC1)) hC3 ?_;walk_at "J"
  have hany:came.any (· == x)=decide (x∈came):=by
   rw [Bool.eq_iff_iff];simp
  rw [hany]
  by_cases hc:x∈came
  ·rw [decide_eq_true hc];rw [cycSeq_c,if_pos hc] at h5;rw [cycEnd_c,if_pos hc] at h6;refine x_iteF (by rfl) ?_;walk_at "J";exact ⟨_,_,‹_›,es,t,en,te,G,by walk_at "J.m",by walk_at "J.m",by walk_at "J.m",by walk_at "J.m",h5,h6⟩
  ·rw [decide_eq_false hc];rw [cycSeq_c,if_neg hc,hfy,List.cons_append] at h5;rw [cycEnd_c,if_neg hc,hfy] at h6;refine gq λ_ z4=>?_;obtain ⟨t',ht',h5⟩:=hangAll_cons h5;obtain ⟨v,hv⟩:=hang_par G.e ht';refine z4 ?_;refine x_iteT (by rfl) ?_;walk_at "J";obtain ⟨oT,hT,odT⟩:=G.T.od;refine t_dict ‹_› (odT.dictOf (St.sub ‹_› hT)) hv λs S=>?_;walk_at "J";refine t_sd ‹_› (hS.sub G.sub) hy λs u S=>?_;walk_at "J";refine c_hang ‹_› G ht' hv (hr.le (by decide)) hh λs f g₂ S set sub₂ _=>?_;walk_at "J";refine t_sd ‹_› (hS.sub sub₂) hy λs u S=>?_;walk_at "J";refine set _ _ _ _ _ _ _ rfl ‹_› λs es' g₃ G S=>?_;walk_at "J";refine t_sd ‹_› (hS.sub G.sub) hy λs u S=>?_;walk_at "J";exact ⟨_,_,‹_›,es',t',y,_,G,by walk_at "J.m",by walk_at "J.m",by walk_at "J.m",by walk_at "J.m",h5,h6⟩
 ·rintro m' g' s₁ E₁ ⟨es,t,en,te,G,h1,h2,h3,h4,h5,h6⟩ S₁;have hd:ss'.drop us.length=[]:=by rw [lu];exact List.drop_length ..
  rw [hd] at h5 h6;rw [cycSeq_n,List.nil_append] at h5;rw [cycEnd_n] at h6;walk_at "J";obtain ⟨oC,vC,hC1,hC2,hC3⟩:=hC;have hC1':=G.sub _ _ hC1;refine o_reversed ‹_› (.inl hC1') hC2 λs r S hrev aR=>?_;have lvC:=hC3.len_eq;walk_at "J"
  refine for_O (O_rev S hh (.inl hC1') hC2 hrev aR) (λi m' g'=>Ex2 λes t=>And5 (Grow w g g' d es t) (m' (Str.ofString "things")=some (.ref d)) (m' (Str.ofString "sent")=some (.ref dS)) (m' (Str.ofString "end")=some (.str en te)) (hangAll t ((came.reverse.drop i).map λx=>(x,tget tbl x))=some ths)) (λ_ _ _=>False)
   ⟨es,t,G,h1,h2,h4,h5⟩ ?_ ?_ ?_ (λ_ _ _ _ h=>h.elim)
  ·rintro i m' g'' ⟨_,_,G',_⟩;exact keep1 (hC1') (G'.sub _ _ hC1)
  ·rintro i v m' g' s₁ B' E₁ _ hi hv ⟨es,t,G,h1,h2,h4,h5⟩ S₁;refine gq λ_ z6=>?_;obtain ⟨x,tx,rfl,hx⟩:=hC3.item _ _ hv
   have hd:came.reverse.drop i=x :: came.reverse.drop (i + 1):=by
    have hi':i < came.reverse.length:=by rw [List.length_reverse];exact Nat.lt_of_lt_of_eq ‹_› ‹_›
    rw [List.drop_eq_getElem_cons hi']
    congr 1
    rw [List.getElem_reverse];rw [lvC] at hx;rw [List.getElem?_eq_getElem (by exact om17 lvC hi)] at hx;have:=Option.some.inj hx;rw [<-this]
   obtain ⟨y,hy⟩:=hca x (List.mem_of_getElem? hx);rw [hd,List.map_cons,tget_of hy] at h5;obtain ⟨t',ht',h5⟩:=hangAll_cons h5;obtain ⟨v,hv⟩:=hang_par G.e ht';refine z6 ?_;walk_at "J";refine t_sd ‹_› (hS.sub G.sub) hy λs u S=>?_;walk_at "J";obtain ⟨oT,hT,odT⟩:=G.T.od;refine t_dict ‹_› (odT.dictOf (St.sub ‹_› hT)) hv λs S=>?_;walk_at "J";refine c_hang ‹_› G ht' hv (hr.le (by decide)) hh λs f g₂ S set sub₂ _=>?_;walk_at "J";refine set _ _ _ _ _ _ _ rfl ‹_› λs es' g₃ G S=>?_;walk_at "J";exact ⟨_,_,‹_›,es',t',G,by walk_at "J.m",by walk_at "J.m",by walk_at "J.m",h5⟩
  ·rintro m' g' s₁ E₁ ⟨es,t,G,h1,h2,h4,h5⟩ S₁;have hd:came.reverse.drop vC.length=[]:=by rw [lvC];exact List.drop_eq_nil_iff.mpr (by simp)
   rw [hd] at h5;cases h5;walk_at "J";refine n_tuple ‹_› λs T hT S=>?_;rw [h6] at hT;walk_at "J";exact ⟨T,d,es,_,te,rfl,hT,S.kp,G⟩
end
section
variable {w:World} {B:Bs w} {A:Around} {L:Addr} {m m':Str->Option Value} {g:PH} {s:Shared} {env:Env} {E:Value->Shared->Prop} {pl:Sem Bool}
theorem loop_testsG {elt target iter:Expr} {ifs:List Expr} {scope:Scope} {pos:Pos} {it acc:Value} {env:Env} {R:Result->Shared->Prop} (I:Nat->Shared->Prop)
  (turn:∀ n s,I n s->wpAny (model PG w) A (pyNext it) (λr s₁=>match r with
   |none=>R (.ok .next) s₁
   |some v=>wpAny (model PG w) A (letOwnedTupleGo target it v) (λ_ s₁'=>wpAny (model PG w) A (assign target env v) (λ_ s₂=>
     wpAny (model PG w) A (forIn ifs true λc r=>if r=true then do let ok <-isTrue c env (eval c env);pure (ForInStep.yield ok) else pure (ForInStep.yield r)) (λok s₃=>
      if ok=true then wpAny (model PG w) A (eval elt env) (λx s₄=>
       wpAny (model PG w) A (call (.builtin "list.append") [acc,x]) (λ_ s₅=>∃ m,m < n∧I m s₅) (notedBy (model PG w) A env λe s'=>R (.error e) s') s₄) (notedBy (model PG w) A env λe s'=>R (.error e) s') s₃
      else ∃ m,m < n∧I m s₃) (notedBy (model PG w) A env λe s'=>R (.error e) s') s₂) (notedBy (model PG w) A env λe s'=>R (.error e) s') s₁') (notedBy (model PG w) A env λe s'=>R (.error e) s') s₁) (notedBy (model PG w) A env λe s'=>R (.error e) s') s)
  (n:Nat) (h:I n s):codeAny (model PG w) A (.compLoop (.ListComp elt [⟨target,iter,ifs,0⟩] scope pos) 0 it acc env) R s:=by
 refine codeAny_loop rfl I (λn s hI=>?_) n h;show wpAny _ A ((compTurn (.ListComp elt [⟨target,iter,ifs,0⟩] scope pos) 0 it acc env).onRaise (λx=>do noteFrame x env;theTreesLotGoes x)) _ _ s;refine wpAny_noted ?_;rw [compTurn_list];refine wpAny_bind (wpAny_standAt (wpAny_bind (wpAny_mono (turn n s hI) (λr s₁ h₁=>?_) λ_ _ h'=>h')));cases r with
 |none=>exact wpAny_pure h₁
 |some v=>
  refine wpAny_bind (wpAny_mono h₁ (λ_ s₁' h₁=>?_) λ_ _ h'=>h');refine wpAny_bind (wpAny_mono h₁ (λ_ s₂ h₂=>wpAny_bind (wpAny_mono h₂ (λok s₃ h₃=>?_) λ_ _ h'=>h')) λ_ _ h'=>h');cases ok with
  |false=>exact wpAny_pure ⟨rfl,h₃⟩
  |true=>
   exact wpAny_bind (wpAny_bind (wpAny_mono h₃ (λx s₄ h₄=>wpAny_bind (wpAny_mono h₄ (λ_ s₅ h₅=>wpAny_pure (wpAny_pure ⟨rfl,h₅⟩)) λ_ _ h'=>h')) λ_ _ h'=>h'))
theorem loop_testsDG {kx vx target iter:Expr} {ifs:List Expr} {scope:Scope} {pos:Pos} {it:Value} {D:Addr} {env:Env} {R:Result->Shared->Prop} (I:Nat->Shared->Prop)
  (turn:∀ n s,I n s->wpAny (model PG w) A (pyNext it) (λr s₁=>match r with
   |none=>R (.ok .next) s₁
   |some v=>wpAny (model PG w) A (letOwnedTupleGo target it v) (λ_ s₁'=>wpAny (model PG w) A (assign target env v) (λ_ s₂=>
     wpAny (model PG w) A (forIn ifs true λc r=>if r=true then do let ok <-isTrue c env (eval c env);pure (ForInStep.yield ok) else pure (ForInStep.yield r)) (λok s₃=>
      if ok=true then wpAny (model PG w) A (eval kx env) (λkv s₄=>wpAny (model PG w) A (eval vx env) (λvv s₅=>
       wpAny (model PG w) A (dictSet D kv vv) (λ_ s₆=>∃ m,m < n∧I m s₆) (notedBy (model PG w) A env λe s'=>R (.error e) s') s₅) (notedBy (model PG w) A env λe s'=>R (.error e) s') s₄) (notedBy (model PG w) A env λe s'=>R (.error e) s') s₃
      else ∃ m,m < n∧I m s₃) (notedBy (model PG w) A env λe s'=>R (.error e) s') s₂) (notedBy (model PG w) A env λe s'=>R (.error e) s') s₁') (notedBy (model PG w) A env λe s'=>R (.error e) s') s₁) (notedBy (model PG w) A env λe s'=>R (.error e) s') s)
  (n:Nat) (h:I n s):codeAny (model PG w) A (.compLoop (.DictComp kx vx [⟨target,iter,ifs,0⟩] scope pos) 0 it (.ref D) env) R s:=by
 refine codeAny_loop rfl I (λn s hI=>?_) n h;show wpAny _ A ((compTurn (.DictComp kx vx [⟨target,iter,ifs,0⟩] scope pos) 0 it (.ref D) env).onRaise (λx=>do noteFrame x env;theTreesLotGoes x)) _ _ s;refine wpAny_noted ?_;rw [compTurn_dict];refine wpAny_bind (wpAny_standAt (wpAny_bind (wpAny_mono (turn n s hI) (λr s₁ h₁=>?_) λ_ _ h'=>h')));cases r with
 |none=>exact wpAny_pure h₁
 |some v=>
  refine wpAny_bind (wpAny_mono h₁ (λ_ s₁' h₁=>?_) λ_ _ h'=>h');refine wpAny_bind (wpAny_mono h₁ (λ_ s₂ h₂=>wpAny_bind (wpAny_mono h₂ (λok s₃ h₃=>?_) λ_ _ h'=>h')) λ_ _ h'=>h');cases ok with
  |false=>exact wpAny_pure ⟨rfl,h₃⟩
  |true=>
   exact wpAny_bind (wpAny_bind (wpAny_mono h₃ (λkv s₄ h₄=>wpAny_bind (wpAny_holding (wpAny_mono h₄ (λvv s₅ h₅=>wpAny_bind (wpAny_standAt (wpAny_holding (wpAny_mono h₅ (λ_ s₆ h₆=>wpAny_pure ⟨rfl,h₆⟩) λ_ _ h'=>h')))) λ_ _ h'=>h'))) λ_ _ h'=>h'))
theorem Away.onto {wr:List Addr} {h h':Heap} (a:Away B L g wr h) (k:∀ b∈wr,∃ o,h'.get? b=some o):Away B L g wr h':=⟨a.base,a.g,a.L,a.t1,a.t2,k⟩
structure Born {w:World} (B:Bs w) (L:Addr) (m:Str->Option Value) (g:PH) (h:Heap) (B₁:Bs w) (g₁:PH) (s':Shared):Prop where
 le:Le B B₁
 st:St B₁ h.objs.size (λy=>([]:List (Str×Value)).reverse.lookup y) g₁ s'
 away:∀ ys,Away B L g ys h->Away B₁ h.objs.size g₁ ys s'.heap
 old:∀ b o,h.get? b=some o->s'.heap.get? b=some o
 back:∀ s'' g',Kp B₁ g' s''->St B L m g' s''
 backA:∀ C' g' h' ys,Away B₁ C' g' ys h'->(∀ b∈ys,b≠L)->Away B L g' ys h'
 nb:B.base h.objs.size=none
 nL:h.objs.size≠L
theorem St.born (S:St B L m g s) {h₁:Heap} (hns:h₁.Ns s.heap.objs.size (λy=>([]:List (Str×Value)).reverse.lookup y)) (old:∀ b o,s.heap.get? b=some o->h₁.get? b=some o) (tk:Nat) :
  ∃ B₁,Born B L m g s.heap B₁ g { s with heap:=h₁,toks:=tk }:=by
 obtain ⟨r,r1,r2,rL,K,back⟩:=S.callL;have hz:=K.size;have hB1:Le B (B.ext r r1 r2):=λb o e=>extB_of e;refine ⟨B.ext r r1 r2,hB1,⟨K.grow old _,hns,K.fresh (Nat.le_refl _),K.freshB (Nat.le_refl _),Nat.ne_of_gt hz.1,Nat.ne_of_gt hz.2⟩,λys a=>⟨λb hb=>?_,a.g,λb hb=>?_,a.t1,a.t2,λb hb=>?_⟩,old,back,λ_ _ _ _ a hL=>⟨λb hb=>?_,a.g,hL,a.t1,a.t2,a.is⟩,S.kp.freshB (Nat.le_refl _),Nat.ne_of_gt S.ns.lt⟩
 ·exact (extB_new (a.base b hb)).trans (rL b (a.L b hb))
 ·obtain ⟨o,ho⟩:=a.is b hb;exact Nat.ne_of_lt (Heap.lt_size ho)
 ·obtain ⟨o,ho⟩:=a.is b hb;exact ⟨o,old _ _ ho⟩
 ·have:=a.base b hb;cases q:B.base b with
  |none=>exact rfl
  |some o=>exact absurd ((hB1 _ _ q).symm.trans this) nofun
theorem env_born {scope:Scope} {cl:List (Str×Addr)} {Q:Env->Shared->Prop} (hcell:∀ y∈scope.names,y.2≠.cell) (hkind:scope.kind=.function) (S:St B env.locals m g s)
  (h:∀ cenv B₁ s',{ cenv with scope:=relabel scope env }=compEnvC scope cl s.heap.objs.size env->cenv.locals=s.heap.objs.size->Born B env.locals m g s.heap B₁ g s'->Q cenv s') :
  wpAny (model PG w) A (newFunctionEnv scope env.globals cl [] env.qual none .none (some env)) Q E s:=
 wpAny_newFunctionEnv hcell (λ_ hy=>nomatch hy) (λh₁ hns hsb=>(S.born hns (λb o e=>hsb.extBut b o (Nat.ne_of_lt (Heap.lt_size e)) (Heap.get?_push_of_some _ e)) _).elim λ_ b=>h _ _ _ rfl rfl b) hkind
theorem newFunctionEnv_one {scope:Scope} {xc:Str} {globals:Addr} {cl:List (Str×Addr)} {qual:Str} {Q:Env->Shared->Prop}
  (hc1:∀ n acc,cellsFrom n scope.names acc=(xc,n) :: acc) (hp1:∀ h,pushCells h scope.names=h.push { cls:=.type "cell",data:=.cell none })
  (hQ:∀ h',h'.Ns s.heap.objs.size (λy=>([]:List (Str×Value)).reverse.lookup y)->Heap.SameBut s.heap.objs.size (s.heap.push { cls:=.type "dict",data:=.dict #[] }) h'->h'.objs.size=s.heap.objs.size + 1 ->
   Q { scope:=scope,locals:=s.heap.objs.size,globals:=globals,cells:=(xc,s.heap.objs.size + 1) :: cl,qual:=qual,func:=none,code:=env.code,frame:=env.frame,builtins:=env.builtins }
    {s with heap:=h'.push { cls:=.type "cell",data:=.cell none },toks:=s.toks + ([]:List (Str×Value)).length }) :
  wpAny (model PG w) A (newFunctionEnv scope globals cl [] qual none .none (some env)) Q E s:=by
 simp only [newFunctionEnv,Option.isSome_some,if_true];refine wpAny_bind (wpAny_alloc ?_);refine wpAny_bind (wpAny_layCells _ (λname kind cells=>by cases hkc:kind == NameKind.cell <;> simp [hkc]) _ _ _ _ ?_);rw [hc1,hp1];dsimp only;rw [Heap.size_push];rw [List.forIn_nil];refine wpAny_bind (wpAny_pure (wpAny_pure ?_));exact hQ _ (Heap.Ns.new s.heap (.type "dict")) ⟨rfl,λ_ _=>rfl⟩ (Heap.size_push ..)
noncomputable def cell0:Obj:={ cls:=.type "cell",data:=.cell none }
theorem env_bornC {scope:Scope} {xc:Str} {cl:List (Str×Addr)} {Q:Env->Shared->Prop} (hc1:∀ n acc,cellsFrom n scope.names acc=(xc,n) :: acc) (hp1:∀ h,pushCells h scope.names=h.push { cls:=.type "cell",data:=.cell none }) (S:St B env.locals m g s)
  (h:∀ ca cenv B₁ s',{ cenv with scope:=relabel scope env }=compEnvC scope ((xc,ca) :: cl) s.heap.objs.size env->cenv.locals=s.heap.objs.size->Born B env.locals m g s.heap B₁ (put g ca cell0) s'->g ca=none∧B.base ca=none->Q cenv s') :
  wpAny (model PG w) A (newFunctionEnv scope env.globals cl [] env.qual none .none (some env)) Q E s:=by
 refine newFunctionEnv_one hc1 hp1 λh₁ hns hsb hz=>?_;obtain ⟨B₁,b⟩:=S.born hns (λb o e=>hsb.extBut b o (Nat.ne_of_lt (Heap.lt_size e)) (Heap.get?_push_of_some _ e)) (s.toks + ([]:List (Str×Value)).length);have SC:=b.st.alloc cell0 (s.toks + ([]:List (Str×Value)).length);dsimp only at SC;rw [hz] at SC;have pk:∀ b o,h₁.get? b=some o->(h₁.push cell0).get? b=some o:=λb o e=>Heap.get?_push_of_some _ e;refine h _ _ B₁ _ rfl rfl ⟨b.le,SC,λys a=>?_,λx o e=>pk _ _ (b.old _ _ e),b.back,b.backA,b.nb,b.nL⟩ ⟨S.kp.fresh (Nat.le_succ _),S.kp.freshB (Nat.le_succ _)⟩;have aC:=b.away _ a;refine ⟨aC.base,λx hx=>?_,aC.L,aC.t1,aC.t2,λx hx=>?_⟩ <;> obtain ⟨o,ho⟩:=aC.is x hx
 ·exact (put_ne (Nat.ne_of_lt (Nat.lt_of_lt_of_eq (Heap.lt_size ho) hz))).trans (aC.g _ hx)
 ·exact ⟨o,pk _ _ ho⟩
theorem loop_G {σ υ:Type} {Ob:Heap->Addr->σ->Prop} {Add:σ->υ->σ->Prop} {Lim:σ->Prop} {comp target:Expr} {C D It:Addr} {fp wr hd keep:List Addr} {n:Nat} {P:Nat->Value->Heap->Prop} {Si:Nat->Heap->Prop} {R:Result->Shared->Prop} {env:Env}
  {INS:υ->(Shared->Prop)->(Value->Shared->Prop)->Shared->Prop} {EVT:Value->(υ->Shared->Prop)->(Unit->Shared->Prop)->(Value->Shared->Prop)->Shared->Prop}
  (hAt:∀ h h' a,Ob h D a->(∀ o,h.get? D=some o->h'.get? D=some o)->Ob h' D a) (hIs:∀ h a,Ob h D a->∃ o,h.get? D=some o)
  (hIns:∀ y acc acc' s K E,Ob s.heap D acc->Lim acc->Add acc y acc'->(∀ h' tk,Heap.SameBut D s.heap h'->Ob h' D acc'->K { s with heap:=h',toks:=tk })->INS y K E s)
  (hGo:∀ (I:Nat->Shared->Prop),(∀ n s,I n s->wpAny (model PG w) A (pyNext (.ref It)) (λr s₁=>match r with
    |none=>R (.ok .next) s₁
    |some v=>wpAny (model PG w) A (letOwnedTupleGo target (.ref It) v) (λ_ s₁'=>EVT v (λy s=>INS y (λs=>∃ m,m < n∧I m s) (notedBy (model PG w) A env λe s'=>R (.error e) s') s) (λ_ s=>∃ m,m < n∧I m s) (notedBy (model PG w) A env λe s'=>R (.error e) s') s₁') (notedBy (model PG w) A env λe s'=>R (.error e) s') s₁) (notedBy (model PG w) A env λe s'=>R (.error e) s') s) ->
   ∀ n s,I n s->codeAny (model PG w) A (.compLoop comp 0 (.ref It) (.ref D) env) R s)
  (W:WG w A target It fp wr n P Si) (hex:∀ i h,Si i h->∀ b∈wr,∃ o,h.get? b=some o) (hw:∀ b∈wr,b∈hd) (hDhd:D∉hd) (hDfp:∀ b∈fp,b∉hd->b≠D)
  (hfp:∀ b∈fp,b∉hd->(∃ o,B.base b=some (.ex o))∨(b∈keep∧∃ o,g b=some o))
  (I:Nat->PH->σ->Prop) (hlim:∀ i g acc,i < n->I i g acc->Lim acc)
  (hkeep:∀ i g' acc,I i g' acc->∀ b∈keep,∀ o,g b=some o->g' b=some o)
  (turn:∀ i v g s (B':Bs w) mC acc E',Le B B'->i < n->P i v s.heap->I i g acc->St B' C mC g s ->
   ∀ R1:υ->Shared->Prop,(∀ y s,(Ex3 λm' g' acc'=>And3 (Add acc y acc') (St B' C m' g' s) (I (i + 1) g' acc'))->R1 y s)->∀ R0:Unit->Shared->Prop,(∀ r s,(Ex2 λm' g'=>St B' C m' g' s∧I (i + 1) g' acc)->R0 r s)->EVT v R1 R0 E' s)
  (done:∀ s m g acc,I n g acc->St B C m g s->Away B C g [D] s.heap->Ob s.heap D acc->R (.ok .next) s)
  {m:Str->Option Value} {g₁:PH} {s:Shared} {acc:σ} (hI:I 0 g₁ acc) (S:St B C m g₁ s) (a:Away B C g₁ (D :: hd) s.heap) (hs:Si 0 s.heap) (hq:Ob s.heap D acc) :
  codeAny (model PG w) A (.compLoop comp 0 (.ref It) (.ref D) env) R s:=by
 let INV:Nat->Shared->Prop:=λk s=>Ex4 λi m g acc=>And7 (i≤n) (k=n - i) (I i g acc) (St B C m g s) (Away B C g (D :: hd) s.heap) (Si i s.heap) (Ob s.heap D acc)
 let N:=notedBy (model PG w) A env λe s'=>R (.error e) s'
 refine hGo INV ?_ n s ⟨0,m,g₁,acc,Nat.zero_le _,rfl,hI,S,a,hs,hq⟩;clear hI S a hs hq;rintro k s ⟨i,m,g',acc,hin,rfl,hIi,S,a,hsi,hq⟩
 by_cases hi:i < n
 ·refine wpAny_mono (W.item i s (λv s=>EVT v (λy s=>INS y (λs=>∃ k,k < n - i∧INV k s) N s) (λ_ s=>∃ k,k < n - i∧INV k s) N s) N hi hsi λv h' tk hP hs' hk=>?_) (λr s₁ h₁=>?_) λ_ _ e=>e
  rotate_left
  ·cases r with
   |none=>exact h₁.elim
   |some v=>exact h₁
  have S₁:=S.moved (a.mono λb hb=>.tail _ (hw b hb)) hk tk;have hq₁:=hAt _ h' _ hq λo e=>hk _ _ (λh=>hDhd (hw _ h)) e
  have a₁:Away B C g' (D :: hd) h':=⟨a.base,a.g,a.L,a.t1,a.t2,λb hb=>by
   by_cases hbw:b∈wr
   ·exact hex _ _ hs' b hbw
   ·obtain ⟨o,ho⟩:=a.is b hb;exact ⟨o,hk _ _ hbw ho⟩⟩
  obtain ⟨B',hB,_,S₂,back⟩:=St.hold (s:={ s with heap:=h',toks:=tk }) S₁ a₁
  have next:∀ {m' g₂ s₂ acc'},St B' C m' g₂ s₂->I (i + 1) g₂ acc'->And4 (St B C m' g₂ s₂) (Away B C g₂ (D :: hd) s₂.heap) (Ob s₂.heap D acc) (Si (i + 1) s₂.heap):=λ{m' g₂ s₂ acc'} S' hI'=>by
   obtain ⟨S'',a'',same⟩:=back _ _ _ S';refine ⟨S'',a'',hAt _ _ _ hq₁ λo e=>(same D (.head _)).trans e,W.frame _ _ _ hs' λb hb o e=>?_⟩
   by_cases hbw:b∈D :: hd
   ·exact (same b hbw).trans e
   ·rcases hfp b hb (λh=>hbw (.tail _ h)) with ⟨oo,hx⟩|⟨hkb,oo,hx⟩
    ·cases (S₁.ov _ _ hx).symm.trans e;exact S''.ov _ _ hx
    ·cases (S₁.sub (hkeep _ _ _ hIi b hkb oo hx)).symm.trans e;exact S''.sub (hkeep _ _ _ hI' b hkb _ hx)
  have lt:n - (i + 1) < n - i:=by omega
  refine turn i v g' _ B' m acc _ hB hi hP hIi S₂ _ (λy s₅ h₅=>?_) _ λr s₄ h₄=>?_
  ·refine gq λ_ z6=>?_;obtain ⟨m',g₂,acc',hA,S',hI'⟩:=h₅;obtain ⟨S'',a'',hq',hsi'⟩:=next S' hI';refine z6 ?_;refine hIns _ _ _ _ _ _ hq' (hlim _ _ _ hi hIi) hA λh₆ tk hsb ho=>?_;have S₆:=S''.moved (wr:=[D]) (a''.mono (m1 (.head _))) (λb o hb e=>(hsb.2 _ (λq=>hb (q▸.head _))).trans e) tk;refine ⟨n - (i + 1),lt,i + 1,m',g₂,acc',hi,rfl,hI',S₆,⟨a''.base,a''.g,a''.L,a''.t1,a''.t2,λb hb=>?_⟩,W.frame _ _ _ hsi' λb hb o e=>?_,ho⟩
   ·by_cases hbD:b=D
    ·exact hbD▸hIs _ _ ho
    ·obtain ⟨o,e⟩:=a''.is b hb;exact ⟨o,(hsb.2 _ hbD).trans e⟩
   ·refine (hsb.2 _ ?_).trans e
    by_cases hbd:b∈hd
    ·exact λq=>hDhd (q▸hbd)
    ·exact hDfp b hb hbd
  ·refine gq λ_ z5=>?_;obtain ⟨m',g₂,S',hI'⟩:=h₄;obtain ⟨S'',a'',hq',hsi'⟩:=next S' hI';refine z5 ?_;exact ⟨n - (i + 1),lt,i + 1,m',g₂,acc,hi,rfl,hI',S'',a'',hsi',hq'⟩
 ·cases Nat.le_antisymm hin (Nat.le_of_not_lt hi);refine W.done s _ _ hsi λh' tk hk=>?_;have hw':∀ b∈wr,b∈D :: hd:=λb hb=>.tail _ (hw b hb);have hq₂:=hAt _ h' _ hq λo e=>hk _ _ (λh=>hDhd (hw _ h)) e;exact done _ m g' acc hIi (S.moved (a.mono hw') hk tk) ((a.mono (wr:=[D]) (m1 (.head _))).onto (m1 (hIs _ _ hq₂))) hq₂
theorem core_G {σ υ ι:Type} {Ob:Heap->Addr->σ->Prop} {Add:σ->υ->σ->Prop} {Lim:σ->Prop} {Ok:ι->Prop} {o0:Obj} {a0:σ} {comp target:Expr} {scope:Scope} {cl:List (Str×Addr)} {cl':ι->List (Str×Addr)} {g₁:ι->PH} {x:Value} {keep:List Addr} {n:Nat} {P:Nat->Value->Heap->Prop} {RR:Value->Addr->Result->Shared->Prop}
  {newX:Sem Value} {INS:Addr->υ->(Shared->Prop)->(Value->Shared->Prop)->Shared->Prop} {EVT:Env->Value->(υ->Shared->Prop)->(Unit->Shared->Prop)->(Value->Shared->Prop)->Shared->Prop}
  (hf:o0.isFreed=false) (hNew:∀ (s:Shared) (Q:Value->Shared->Prop),Q (.ref s.heap.objs.size) { s with heap:=s.heap.push o0 }->wpAny (model PG w) A newX Q E s)
  (hOb:∀ h D,h.get? D=some o0->Ob h D a0) (hAt:∀ D h h' a,Ob h D a->(∀ o,h.get? D=some o->h'.get? D=some o)->Ob h' D a) (hIs:∀ D h a,Ob h D a->∃ o,h.get? D=some o)
  (hIns:∀ D y acc acc' s K E,Ob s.heap D acc->Lim acc->Add acc y acc'->(∀ h' tk,Heap.SameBut D s.heap h'->Ob h' D acc'->K { s with heap:=h',toks:=tk })->INS D y K E s)
  (hGo:∀ It D env R (I:Nat->Shared->Prop),(∀ n s,I n s->wpAny (model PG w) A (pyNext (.ref It)) (λr s₁=>match r with
    |none=>R (.ok .next) s₁
    |some v=>wpAny (model PG w) A (letOwnedTupleGo target (.ref It) v) (λ_ s₁'=>EVT env v (λy s=>INS D y (λs=>∃ m,m < n∧I m s) (notedBy (model PG w) A env λe s'=>R (.error e) s') s) (λ_ s=>∃ m,m < n∧I m s) (notedBy (model PG w) A env λe s'=>R (.error e) s') s₁') (notedBy (model PG w) A env λe s'=>R (.error e) s') s₁) (notedBy (model PG w) A env λe s'=>R (.error e) s') s) ->
   ∀ n s,I n s->codeAny (model PG w) A (.compLoop comp 0 (.ref It) (.ref D) env) R s)
  (hSt:∀ s It D env R,codeAny (model PG w) A (.compLoop comp 0 It D env) R s->wpAny (model PG w) A (pyIter It) (λit' s'=>codeAny (model PG w) A (.compLoop comp 0 it' D env) R s') (notedBy (model PG w) A env λx s'=>R (.error x) s') s->codeAny (model PG w) A (.compStart comp 0 It D env) R s)
  (birth:∀ (s:Shared) (Q:Env->Shared->Prop),St B env.locals m g s->(∀ c cenv B₁ s',{ cenv with scope:=relabel scope env }=compEnvC scope (cl' c) s.heap.objs.size env->cenv.locals=s.heap.objs.size->Born B env.locals m g s.heap B₁ (g₁ c) s'->Ok c->Q cenv s')->wpAny (model PG w) A (newFunctionEnv scope env.globals cl [] env.qual none .none (some env)) Q E s)
  (S:St B env.locals m g s) (O:OpensG B A env.locals m g s target x n P keep)
  (I:ι->Nat->PH->σ->Prop) (hI:∀ c,Ok c->I c 0 (g₁ c) a0) (hlim:∀ c i g acc,i < n->I c i g acc->Lim acc)
  (hkeep:∀ c i g' acc,I c i g' acc->∀ b∈keep,∀ o,g b=some o->g' b=some o)
  (turn:∀ c i v g s (B':Bs w) C mC acc E',Le B B'->i < n->P i v s.heap->I c i g acc->St B' (compEnvC scope (cl' c) C env).locals mC g s ->
   ∀ R1:υ->Shared->Prop,(∀ y s,(Ex3 λm' g' acc'=>And3 (Add acc y acc') (St B' C m' g' s) (I c (i + 1) g' acc'))->R1 y s)->∀ R0:Unit->Shared->Prop,(∀ r s,(Ex2 λm' g'=>St B' C m' g' s∧I c (i + 1) g' acc)->R0 r s)->EVT (compEnvC scope (cl' c) C env) v R1 R0 E' s)
  (fin:∀ c s' D C mC g' acc,I c n g' acc->Ob s'.heap D acc->Away B env.locals g' [D] s'.heap->Away B env.locals g' [C] s'.heap->D≠C->s'.heap.Ns C mC->St B env.locals m g' s'->RR (.ref D) C (.ok .next) s') :
  wpAny (model PG w) A (pyIter x) (λit s₂=>wpAny (model PG w) A newX (λacc s₃=>
   wpAny (model PG w) A (newFunctionEnv scope env.globals cl [] env.qual none .none (some env)) (λcenv s₄=>
    codeAny (model PG w) A (.compStart comp 0 it acc { cenv with scope:=relabel scope env }) (RR acc cenv.locals) s₄) E s₃) E s₂) E s:=by
 refine O _ _ λs₂ It fp wr hd Si S₂ W hex a hw hs hfp=>hNew _ _ ?_;have aD:=a.push S₂ o0 hf;have S₃:=S₂.push o0 s₂.toks;have hD:(s₂.heap.push o0).get? s₂.heap.objs.size=some o0:=Heap.get?_push_size _ hf;have hsD:Si 0 (s₂.heap.push o0):=W.frame _ _ _ hs λb _ o e=>Heap.get?_push_of_some _ e;have hDhd:s₂.heap.objs.size∉hd:=λh=>(a.is _ h).elim λo ho=>Nat.lt_irrefl _ (Heap.lt_size ho)
 have hDfp:∀ b∈fp,b∉hd->b≠s₂.heap.objs.size:=λb hb hn=>by
  rcases hfp b hb hn with ⟨o,ho⟩|⟨_,o,ho⟩
  ·exact Nat.ne_of_lt (Heap.lt_size (show s₂.heap.get? b=some o from S₂.ov _ _ ho))
  ·exact Nat.ne_of_lt (Heap.lt_size (S₂.sub ho))
 have DL:s₂.heap.objs.size≠env.locals:=Nat.ne_of_gt S₂.ns.lt;change St B env.locals m g { s₂ with heap:=s₂.heap.push o0 } at S₃;generalize s₂.heap.objs.size=D at *;generalize hs3:({ s₂ with heap:=s₂.heap.push o0 }:Shared)=s₃ at *;have hh3:s₂.heap.push o0=s₃.heap:=hs3▸rfl;rw [hh3] at aD hD hsD;clear hs3 hh3 a hs S₂;refine birth _ _ S₃ λc cenv B₁ s₄ he hl b hc=>?_;rw [he,hl];have Csz:D≠s₃.heap.objs.size:=Nat.ne_of_lt (Heap.lt_size hD)
 have loop:codeAny (model PG w) A (.compLoop comp 0 (.ref It) (.ref D) (compEnvC scope (cl' c) s₃.heap.objs.size env)) (RR (.ref D) s₃.heap.objs.size) s₄:=by
  refine loop_G (B:=B₁) (C:=s₃.heap.objs.size) (hAt D) (hIs D) (hIns D) (hGo It D _ _) W hex hw hDhd hDfp (λx hx hn=>(hfp x hx hn).imp (λ⟨o,q⟩=>⟨o,b.le _ _ q⟩) id) (I c) (hlim c) (hkeep c) (λi v g s B' mC acc E' h=>turn c i v g s B' _ mC acc E' (b.le.trans h)) (λs mC g' acc hI S a hq=>?_) (hI c hc) b.st (b.away _ aD) (W.frame _ _ _ hsD λx _ o e=>b.old x o e) (hOb _ _ (b.old _ _ hD));refine fin c _ D _ mC g' acc hI hq (b.backA _ _ _ _ a (m1 DL)) (.one b.nb S.off b.nL S.o1 S.o2 S.isL) Csz S.ns (b.back _ _ S.kp)
 exact hSt _ _ _ _ _ loop (W.self 0 _ _ _ (W.frame _ _ _ hsD λx _ o e=>b.old x o e) loop)
theorem list_ins {Dd:Addr} {x:Value} {acc acc':List Value} {s:Shared} {K:Shared->Prop} {E:Value->Shared->Prop} (ho:∃ q,s.heap.get? Dd=some (listOf acc.toArray q)) (hl:acc.length < 1000) (hA:acc'=acc ++ [x])
  (h:∀ h' tk,Heap.SameBut Dd s.heap h'->(∃ q,h'.get? Dd=some (listOf acc'.toArray q))->K { s with heap:=h',toks:=tk }):wpAny (model PG w) A (call (.builtin "list.append") [.ref Dd,x]) (λ_ s=>K s) E s:=by
 obtain ⟨q,hq⟩:=ho;subst hA;exact append_at hq (λh₆ hsb ho=>h _ s.toks hsb ⟨q + 1,by simpa using ho⟩) (by rw [List.size_toArray,sizeLine_eq];omega)
theorem core_L {x:Value} {n:Nat} {P:Nat->Value->Heap->Prop} {keep:List Addr} {elt target iter:Expr} {ifs:List Expr} {scope:Scope} {pos:Pos} {cl:List (Str×Addr)} {RR:Value->Addr->Result->Shared->Prop}
  (S:St B env.locals m g s) (O:OpensG B A env.locals m g s target x n P keep) (hn:n≤1000)
  (I:Nat->PH->List Value->Prop) (hI:I 0 g []) (hlen:∀ i g acc,I i g acc->acc.length≤i)
  (hkeep:∀ i g' acc,I i g' acc->∀ b∈keep,∀ o,g b=some o->g' b=some o)
  (turn:∀ i v g s (B':Bs w) C mC acc E',Le B B'->i < n->P i v s.heap->I i g acc->St B' (compEnvC scope cl C env).locals mC g s ->
   ∀ R1:Value->Shared->Prop,(∀ y s,(Ex2 λm' g'=>St B' C m' g' s∧I (i + 1) g' (acc ++ [y]))->R1 y s)->∀ R0:Unit->Shared->Prop,(∀ r s,(Ex2 λm' g'=>St B' C m' g' s∧I (i + 1) g' acc)->R0 r s) ->
   wpAny (model PG w) A (assign target (compEnvC scope cl C env) v) (λ_ s=>
    wpAny (model PG w) A (forIn ifs true λc r=>if r=true then do let ok <-isTrue c (compEnvC scope cl C env) (eval c (compEnvC scope cl C env));pure (ForInStep.yield ok) else pure (ForInStep.yield r)) (λok s=>
     if ok=true then wpAny (model PG w) A (eval elt (compEnvC scope cl C env)) R1 E' s else R0 () s) E' s) E' s)
  (fin:∀ s' D C mC g' acc,I n g' acc->(∃ k,s'.heap.get? D=some (listOf acc.toArray k))->Away B env.locals g' [D] s'.heap->Away B env.locals g' [C] s'.heap->D≠C->s'.heap.Ns C mC->St B env.locals m g' s'->RR (.ref D) C (.ok .next) s')
  (hcell:∀ y∈scope.names,y.2≠.cell:=by decide) (hkind:scope.kind=.function:=by rfl) :
  wpAny (model PG w) A (pyIter x) (λit s₂=>wpAny (model PG w) A (newList []) (λacc s₃=>
   wpAny (model PG w) A (newFunctionEnv scope env.globals cl [] env.qual none .none (some env)) (λcenv s₄=>
    codeAny (model PG w) A (.compStart (.ListComp elt [⟨target,iter,ifs,0⟩] scope pos) 0 it acc { cenv with scope:=relabel scope env }) (RR acc cenv.locals) s₄) E s₃) E s₂) E s:=
 core_G (σ:=List Value) (υ:=Value) (o0:={ cls:=.type "list",data:=.seq ([]:List Value).toArray }) (a0:=[]) (Ob:=λh D a=>∃ k,h.get? D=some (listOf a.toArray k)) (Add:=λa y a'=>a'=a ++ [y]) (Lim:=λa=>a.length < 1000)
  (INS:=λD y K E s=>wpAny (model PG w) A (call (.builtin "list.append") [.ref D,y]) (λ_ s=>K s) E s) (EVT:=λenv v R1 R0 E' s=>wpAny (model PG w) A (assign target env v) (λ_ s=>wpAny (model PG w) A (forIn ifs true λc r=>if r=true then do let ok <-isTrue c env (eval c env);pure (ForInStep.yield ok) else pure (ForInStep.yield r)) (λok s=>if ok=true then wpAny (model PG w) A (eval elt env) R1 E' s else R0 () s) E' s) E' s)
  rfl (λ_ _ h=>wpAny_newObj_type h) (λ_ _ h=>⟨0,h⟩) (λ_ _ _ _ h k=>h.imp λ_ e=>k _ e) (λ_ _ _ ⟨_,e⟩=>⟨_,e⟩) (λ_ _ _ _ _ _ _=>list_ins) (λ_ _ _ _ I h n s hI=>loop_testsG I h n hI) (λ_ _ _ _ _=>codeAny_compStart_list) (ι:=Unit) (cl':=λ_=>cl) (g₁:=λ_=>g) (Ok:=λ_=>True) (λ_ _ S h=>env_born hcell hkind S λcenv B₁ s' a b c=>h () cenv B₁ s' a b c trivial)
  S O (λ_=>I) (λ_ _=>hI) (λ_ i g acc hi h=>Nat.lt_of_le_of_lt (hlen _ _ _ h) (Nat.lt_of_lt_of_le hi hn)) (λ_=>hkeep) (λ_ i v g s B' C mC acc E' h1 h2 h3 h4 h5 R1 k1 R0 k0=>turn i v g s B' C mC acc E' h1 h2 h3 h4 h5 R1 (λy s ⟨m',g',a,b⟩=>k1 y s ⟨m',g',_,rfl,a,b⟩) R0 k0) (λ_=>fin)
theorem core_LC {xc:Str} {x:Value} {n:Nat} {P:Nat->Value->Heap->Prop} {keep:List Addr} {elt target iter:Expr} {ifs:List Expr} {scope:Scope} {pos:Pos} {cl:List (Str×Addr)} {RR:Value->Addr->Result->Shared->Prop}
  (S:St B env.locals m g s) (O:OpensG B A env.locals m g s target x n P keep) (hn:n≤1000)
  (I:Addr->Nat->PH->List Value->Prop) (hI:∀ ca o,o.data=.cell none->g ca=none->B.base ca=none->I ca 0 (put g ca o) []) (hlen:∀ ca i g acc,I ca i g acc->acc.length≤i)
  (hkeep:∀ ca i g' acc,I ca i g' acc->∀ b∈keep,∀ o,g b=some o->g' b=some o)
  (turn:∀ ca i v g s (B':Bs w) C mC acc E',Le B B'->i < n->P i v s.heap->I ca i g acc->St B' (compEnvC scope ((xc,ca) :: cl) C env).locals mC g s ->
   ∀ R1:Value->Shared->Prop,(∀ y s,(Ex2 λm' g'=>St B' C m' g' s∧I ca (i + 1) g' (acc ++ [y]))->R1 y s)->∀ R0:Unit->Shared->Prop,(∀ r s,(Ex2 λm' g'=>St B' C m' g' s∧I ca (i + 1) g' acc)->R0 r s) ->
   wpAny (model PG w) A (assign target (compEnvC scope ((xc,ca) :: cl) C env) v) (λ_ s=>
    wpAny (model PG w) A (forIn ifs true λc r=>if r=true then do let ok <-isTrue c (compEnvC scope ((xc,ca) :: cl) C env) (eval c (compEnvC scope ((xc,ca) :: cl) C env));pure (ForInStep.yield ok) else pure (ForInStep.yield r)) (λok s=>
     if ok=true then wpAny (model PG w) A (eval elt (compEnvC scope ((xc,ca) :: cl) C env)) R1 E' s else R0 () s) E' s) E' s)
  (fin:∀ s' D C mC ca g' acc,I ca n g' acc->(∃ k,s'.heap.get? D=some (listOf acc.toArray k))->Away B env.locals g' [D] s'.heap->Away B env.locals g' [C] s'.heap->D≠C->s'.heap.Ns C mC->St B env.locals m g' s'->RR (.ref D) C (.ok .next) s')
  (hc1:(λn acc=>cellsFrom n scope.names acc)=λn acc=>(xc,n) :: acc:=by rfl) (hp1:(λh=>pushCells h scope.names)=λh=>h.push { cls:=.type "cell",data:=.cell none }:=by rfl) :
  wpAny (model PG w) A (pyIter x) (λit s₂=>wpAny (model PG w) A (newList []) (λacc s₃=>
   wpAny (model PG w) A (newFunctionEnv scope env.globals cl [] env.qual none .none (some env)) (λcenv s₄=>
    codeAny (model PG w) A (.compStart (.ListComp elt [⟨target,iter,ifs,0⟩] scope pos) 0 it acc { cenv with scope:=relabel scope env }) (RR acc cenv.locals) s₄) E s₃) E s₂) E s:=
 core_G (σ:=List Value) (υ:=Value) (o0:={ cls:=.type "list",data:=.seq ([]:List Value).toArray }) (a0:=[]) (Ob:=λh D a=>∃ k,h.get? D=some (listOf a.toArray k)) (Add:=λa y a'=>a'=a ++ [y]) (Lim:=λa=>a.length < 1000)
  (INS:=λD y K E s=>wpAny (model PG w) A (call (.builtin "list.append") [.ref D,y]) (λ_ s=>K s) E s) (EVT:=λenv v R1 R0 E' s=>wpAny (model PG w) A (assign target env v) (λ_ s=>wpAny (model PG w) A (forIn ifs true λc r=>if r=true then do let ok <-isTrue c env (eval c env);pure (ForInStep.yield ok) else pure (ForInStep.yield r)) (λok s=>if ok=true then wpAny (model PG w) A (eval elt env) R1 E' s else R0 () s) E' s) E' s)
  rfl (λ_ _ h=>wpAny_newObj_type h) (λ_ _ h=>⟨0,h⟩) (λ_ _ _ _ h k=>h.imp λ_ e=>k _ e) (λ_ _ _ ⟨_,e⟩=>⟨_,e⟩) (λ_ _ _ _ _ _ _=>list_ins) (λ_ _ _ _ I h n s hI=>loop_testsG I h n hI) (λ_ _ _ _ _=>codeAny_compStart_list) (ι:=Addr) (cl':=λc=>(xc,c) :: cl) (g₁:=λc=>put g c cell0) (Ok:=λc=>g c=none∧B.base c=none) (λ_ _ S h=>env_bornC (λn=>congrFun (congrFun hc1 n)) (congrFun hp1) S h)
  S O I (λc h=>hI c _ rfl h.1 h.2) (λc i g acc hi h=>Nat.lt_of_le_of_lt (hlen _ _ _ _ h) (Nat.lt_of_lt_of_le hi hn)) hkeep (λc i v g s B' C mC acc E' h1 h2 h3 h4 h5 R1 k1 R0 k0=>turn c i v g s B' C mC acc E' h1 h2 h3 h4 h5 R1 (λy s ⟨m',g',a,b⟩=>k1 y s ⟨m',g',_,rfl,a,b⟩) R0 k0) (λc s' D C mC=>fin s' D C mC c)
theorem dict_ins {Dd:Addr} {kv vv:Value} {acc acc':List (Str×Value)} {s:Shared} {K:Shared->Prop} {E:Value->Shared->Prop} (hq:s.heap.DictOf (strKind PG w) Dd acc) (hl:acc.length < 1000) (ha:Ex2 λx t=>kv=.str x t∧acc'=stored acc x vv)
  (h:∀ h' tk,Heap.SameBut Dd s.heap h'->h'.DictOf (strKind PG w) Dd acc'->K { s with heap:=h',toks:=tk }):wpAny (model PG w) A (dictSet Dd kv vv) (λ_ s=>K s) E s:=by
 obtain ⟨x,t,rfl,rfl⟩:=ha;unfold dictSet;exact wpAny_holding (wpAny_bind (wpAny_pyHash_str (wpAny_dictSetHashed_pairs (knd:=PySem.strKind PG w) (isStr_is x t) hq (λh₆ ho hsb=>h _ _ hsb ho) (by rw [sizeLine_eq];omega))))
theorem core_D {x:Value} {n:Nat} {P:Nat->Value->Heap->Prop} {keep:List Addr} {kx vx target iter:Expr} {ifs:List Expr} {scope:Scope} {pos:Pos} {cl:List (Str×Addr)} {RR:Value->Addr->Result->Shared->Prop}
  (S:St B env.locals m g s) (O:OpensG B A env.locals m g s target x n P keep) (hn:n≤1000)
  (I:Nat->PH->List (Str×Value)->Prop) (hI:I 0 g []) (hlen:∀ i g acc,I i g acc->acc.length≤i)
  (hkeep:∀ i g' acc,I i g' acc->∀ b∈keep,∀ o,g b=some o->g' b=some o)
  (turn:∀ i v g s (B':Bs w) C mC acc E',Le B B'->i < n->P i v s.heap->I i g acc->St B' (compEnvC scope cl C env).locals mC g s ->
   ∀ R1:Value×Value->Shared->Prop,(∀ r s,(Ex4 λm' g' x t=>And3 (r.1=.str x t) (St B' C m' g' s) (I (i + 1) g' (stored acc x r.2)))->R1 r s)->∀ R0:Unit->Shared->Prop,(∀ r s,(Ex2 λm' g'=>St B' C m' g' s∧I (i + 1) g' acc)->R0 r s) ->
   wpAny (model PG w) A (assign target (compEnvC scope cl C env) v) (λ_ s=>
    wpAny (model PG w) A (forIn ifs true λc r=>if r=true then do let ok <-isTrue c (compEnvC scope cl C env) (eval c (compEnvC scope cl C env));pure (ForInStep.yield ok) else pure (ForInStep.yield r)) (λok s=>
     if ok=true then wpAny (model PG w) A (eval kx (compEnvC scope cl C env)) (λkv s=>wpAny (model PG w) A (eval vx (compEnvC scope cl C env)) (λvv s=>R1 (kv,vv) s) E' s) E' s else R0 () s) E' s) E' s)
  (fin:∀ s' D C mC g' acc,I n g' acc->s'.heap.DictOf (strKind PG w) D acc->Away B env.locals g' [D] s'.heap->Away B env.locals g' [C] s'.heap->D≠C->s'.heap.Ns C mC->St B env.locals m g' s'->RR (.ref D) C (.ok .next) s')
  (hcell:∀ y∈scope.names,y.2≠.cell:=by decide) (hkind:scope.kind=.function:=by rfl) :
  wpAny (model PG w) A (pyIter x) (λit s₂=>wpAny (model PG w) A newDict (λacc s₃=>
   wpAny (model PG w) A (newFunctionEnv scope env.globals cl [] env.qual none .none (some env)) (λcenv s₄=>
    codeAny (model PG w) A (.compStart (.DictComp kx vx [⟨target,iter,ifs,0⟩] scope pos) 0 it acc { cenv with scope:=relabel scope env }) (RR acc cenv.locals) s₄) E s₃) E s₂) E s:=
 core_G (σ:=List (Str×Value)) (υ:=Value×Value) (o0:={ cls:=.type "dict",data:=.dict #[] }) (a0:=[]) (Ob:=λh D a=>h.DictOf (strKind PG w) D a) (Add:=λa y a'=>Ex2 λx t=>y.1=.str x t∧a'=stored a x y.2) (Lim:=λa=>a.length < 1000)
  (INS:=λD y K E s=>wpAny (model PG w) A (dictSet D y.1 y.2) (λ_ s=>K s) E s) (EVT:=λenv v R1 R0 E' s=>wpAny (model PG w) A (assign target env v) (λ_ s=>wpAny (model PG w) A (forIn ifs true λc r=>if r=true then do let ok <-isTrue c env (eval c env);pure (ForInStep.yield ok) else pure (ForInStep.yield r)) (λok s=>if ok=true then wpAny (model PG w) A (eval kx env) (λkv s=>wpAny (model PG w) A (eval vx env) (λvv s=>R1 (kv,vv) s) E' s) E' s else R0 () s) E' s) E' s)
  rfl (λ_ _ h=>wpAny_newObj_type h) (λ_ _ h=>OD.empty.dictOf h) (λ_ _ _ _ h k=>h.at k) (λ_ _ _ h=>by obtain ⟨o,_,_,e,_⟩:=h;exact ⟨o,e⟩) (λ_ _ _ _ _ _ _=>dict_ins) (λ_ _ _ _ I h n s hI=>loop_testsDG I h n hI) (λ_ _ _ _ _=>codeAny_compStart_dict) (ι:=Unit) (cl':=λ_=>cl) (g₁:=λ_=>g) (Ok:=λ_=>True) (λ_ _ S h=>env_born hcell hkind S λcenv B₁ s' a b c=>h () cenv B₁ s' a b c trivial)
  S O (λ_=>I) (λ_ _=>hI) (λ_ i g acc hi h=>Nat.lt_of_le_of_lt (hlen _ _ _ h) (Nat.lt_of_lt_of_le hi hn)) (λ_=>hkeep) (λ_ i v g s B' C mC acc E' h1 h2 h3 h4 h5 R1 k1 R0 k0=>turn i v g s B' C mC acc E' h1 h2 h3 h4 h5 R1 (λy s ⟨m',g',x,t,e,a,b⟩=>k1 y s ⟨m',g',_,⟨x,t,e,rfl⟩,a,b⟩) R0 k0) (λ_=>fin)
end
section
variable {w:World} {B:Bs w} {A:Around} {L:Addr} {m m':Str->Option Value} {g g':PH} {s:Shared} {env:Env} {E:Value->Shared->Prop} {pl:Sem Bool}
theorem Away.moved1 {a b:Addr} {h h':Heap} (x:Away B L g [a] h) (hk:∀ o,h.get? a=some o->h'.get? a=some o):Away B L g [a] h':=
 ⟨x.base,x.g,x.L,x.t1,x.t2,λc hc=>by cases List.mem_singleton.mp hc;obtain ⟨o,ho⟩:=x.is _ (.head _);exact ⟨o,hk _ ho⟩⟩
theorem post_value {D C:Addr} {mC:Str->Option Value} {Q:Value->Shared->Prop} (S:St B L m g s) (aC:Away B L g [C] s.heap) (nC:s.heap.Ns C mC) (hDC:D≠C)
  (h:∀ s',St B L m g s'->(∀ b o,b≠C->s.heap.get? b=some o->s'.heap.get? b=some o)->Q (.ref D) s'):compPost (model PG w) A E none Q (.ref D) C (.ok .next) s:=by
 refine ⟨mC,nC,λh' hs=>?_⟩;have hk:∀ b o,b∉[C]->s.heap.get? b=some o->h'.get? b=some o:=λb o hb e=>(hs.2 _ (by simpa using hb)).trans e;exact h _ (S.moved aC hk s.toks) λb o hb e=>hk b o (by simpa using hb) e
theorem post_name {D C:Addr} {mC:Str->Option Value} {y:Str} {py:Pos} {Q:Flow->Shared->Prop} (S:St B env.locals m g s) (aC:Away B env.locals g [C] s.heap) (nC:s.heap.Ns C mC) (hDC:D≠C) (hk:env.scope.kind=.function) (hl:env.kindOf y=some .local)
  (h:∀ s',St B env.locals (up m y (.ref D)) g s'->(∀ b o,b≠C->b≠env.locals->s.heap.get? b=some o->s'.heap.get? b=some o)->Q .next s') :
  compPost (model PG w) A E (some (assign (.Name y py) env)) (λ_ s'=>Q .next s') (.ref D) C (.ok .next) s:=by
 refine a_name (wpAny_storeName_local hl S.ns (λh₂ hn hs=>?_) (by rw [hk];rfl));have hCL:C≠env.locals:=aC.L _ (.head _);have k1:∀ b o,b≠env.locals->s.heap.get? b=some o->h₂.get? b=some o:=λb o hb e=>(hs.2 _ hb).trans e;have S₂:St B env.locals (up m y (.ref D)) g { s with heap:=h₂ }:=S.store (m':=up m y (.ref D)) hn hs s.toks;have aC₂:Away B env.locals g [C] h₂:=aC.moved1 (b:=C) λo e=>k1 _ _ hCL e;refine ⟨mC,nC.sameBut hs hCL,λh' hs'=>?_⟩;have k2:∀ b o,b∉[C]->h₂.get? b=some o->h'.get? b=some o:=λb o hb e=>(hs'.2 _ (by simpa using hb)).trans e;exact h _ (S₂.moved aC₂ k2 (s.toks + 1)) λb o h1 h2 e=>k2 b o (by simpa using h1) (k1 b o h2 e)
theorem r_listComp {elt target iter:Expr} {ifs:List Expr} {scope:Scope} {pos:Pos} {cl:List (Str×Addr)} {Q:Value->Shared->Prop}
  (h:wpAny (model PG w) A (eval iter env) (λx s₁=>wpAny (model PG w) A (pyIter x) (λit s₂=>wpAny (model PG w) A (newList []) (λacc s₃=>
   wpAny (model PG w) A (newFunctionEnv scope env.globals cl [] env.qual none .none (some env)) (λcenv s₄=>
    codeAny (model PG w) A (.compStart (.ListComp elt [⟨target,iter,ifs,0⟩] scope pos) 0 it acc { cenv with scope:=relabel scope env }) (compPost (model PG w) A E none Q acc cenv.locals) s₄) E s₃) E s₂) E s₁) E s)
  (hclos:closureFor scope env=pure cl:=by rfl) (hkind:scope.kind=.function:=by rfl) (hnames:∀ x∈scope.names,x.2=.local->scope.names.lookup x.1=some .local:=by decide)
  (hs:(λx=>foldedSetIterable iter env x)=λx=>pure x:=by rfl):wpAny (model PG w) A (eval (.ListComp elt [⟨target,iter,ifs,0⟩] scope pos) env) Q E s:=by
 rw [arm_eval_ListComp];exact wpAny_comprehension_free (use:=none) rfl (congrFun hs) hclos hkind hnames h
theorem r_dictComp {kx vx target iter:Expr} {ifs:List Expr} {scope:Scope} {pos:Pos} {cl:List (Str×Addr)} {Q:Value->Shared->Prop}
  (h:wpAny (model PG w) A (eval iter env) (λx s₁=>wpAny (model PG w) A (pyIter x) (λit s₂=>wpAny (model PG w) A newDict (λacc s₃=>
   wpAny (model PG w) A (newFunctionEnv scope env.globals cl [] env.qual none .none (some env)) (λcenv s₄=>
    codeAny (model PG w) A (.compStart (.DictComp kx vx [⟨target,iter,ifs,0⟩] scope pos) 0 it acc { cenv with scope:=relabel scope env }) (compPost (model PG w) A E none Q acc cenv.locals) s₄) E s₃) E s₂) E s₁) E s)
  (hclos:closureFor scope env=pure cl:=by rfl) (hkind:scope.kind=.function:=by rfl) (hnames:∀ x∈scope.names,x.2=.local->scope.names.lookup x.1=some .local:=by decide)
  (hs:(λx=>foldedSetIterable iter env x)=λx=>pure x:=by rfl):wpAny (model PG w) A (eval (.DictComp kx vx [⟨target,iter,ifs,0⟩] scope pos) env) Q E s:=by
 rw [arm_eval_DictComp];exact wpAny_comprehension_free (use:=none) rfl (congrFun hs) hclos hkind hnames h
theorem x_listComp {elt target iter:Expr} {ifs:List Expr} {scope:Scope} {pos spos py:Pos} {y:Str} {cl:List (Str×Addr)} {rest:List Stmt} {Q:Flow->Shared->Prop}
  (h:wpAny (model PG w) A (eval iter env) (λx s₁=>wpAny (model PG w) A (pyIter x) (λit s₂=>wpAny (model PG w) A (newList []) (λacc s₃=>
   wpAny (model PG w) A (newFunctionEnv scope env.globals cl [] env.qual none .none (some env)) (λcenv s₄=>
    codeAny (model PG w) A (.compStart (.ListComp elt [⟨target,iter,ifs,0⟩] scope pos) 0 it acc { cenv with scope:=relabel scope env }) (compPost (model PG w) A E (some (assign (.Name y py) env)) (λ_ s'=>wpAny (model PG w) A (execs rest env) Q E s') acc cenv.locals) s₄) E s₃) E s₂) E s₁) E s)
  (hsw:swapsWith (.ListComp elt [⟨target,iter,ifs,0⟩] scope pos) (some (.Name y py)) spos.line env=pure true:=by rfl)
  (hclos:closureFor scope env=pure cl:=by rfl) (hkind:scope.kind=.function:=by rfl) (hnames:∀ x∈scope.names,x.2=.local->scope.names.lookup x.1=some .local:=by decide)
  (hs:(λx=>foldedSetIterable iter env x)=λx=>pure x:=by rfl):wpAny (model PG w) A (execs (.Assign [.Name y py] (.ListComp elt [⟨target,iter,ifs,0⟩] scope pos) spos :: rest) env) Q E s:=by
 refine wpAny_execs_cons ?_;rw [exec_Assign_Name_used _ _ _ _ hsw];refine wpAny_bind (wpAny_standAt (wpAny_bind ?_));show wpAny _ A (do let _ <-comprehension (.ListComp elt [⟨target,iter,ifs,0⟩] scope pos) scope env _ (newList []) false (eval iter env) (some (assign (.Name y py) env))) _ _ s;refine wpAny_bind (wpAny_mono (wpAny_comprehension_free (use:=some (assign (.Name y py) env)) (Q:=λ_ s'=>wpAny (model PG w) A (execs rest env) Q E s') rfl (congrFun hs) hclos hkind hnames h) (λ_ s' hq=>wpAny_pure (wpAny_pure hq)) λ_ _ e=>e)
theorem x_dictComp {kx vx target iter:Expr} {ifs:List Expr} {scope:Scope} {pos spos py:Pos} {y:Str} {cl:List (Str×Addr)} {rest:List Stmt} {Q:Flow->Shared->Prop}
  (h:wpAny (model PG w) A (eval iter env) (λx s₁=>wpAny (model PG w) A (pyIter x) (λit s₂=>wpAny (model PG w) A newDict (λacc s₃=>
   wpAny (model PG w) A (newFunctionEnv scope env.globals cl [] env.qual none .none (some env)) (λcenv s₄=>
    codeAny (model PG w) A (.compStart (.DictComp kx vx [⟨target,iter,ifs,0⟩] scope pos) 0 it acc { cenv with scope:=relabel scope env }) (compPost (model PG w) A E (some (assign (.Name y py) env)) (λ_ s'=>wpAny (model PG w) A (execs rest env) Q E s') acc cenv.locals) s₄) E s₃) E s₂) E s₁) E s)
  (hsw:swapsWith (.DictComp kx vx [⟨target,iter,ifs,0⟩] scope pos) (some (.Name y py)) spos.line env=pure true:=by rfl)
  (hclos:closureFor scope env=pure cl:=by rfl) (hkind:scope.kind=.function:=by rfl) (hnames:∀ x∈scope.names,x.2=.local->scope.names.lookup x.1=some .local:=by decide)
  (hs:(λx=>foldedSetIterable iter env x)=λx=>pure x:=by rfl):wpAny (model PG w) A (execs (.Assign [.Name y py] (.DictComp kx vx [⟨target,iter,ifs,0⟩] scope pos) spos :: rest) env) Q E s:=by
 refine wpAny_execs_cons ?_;rw [exec_Assign_Name_used _ _ _ _ hsw];refine wpAny_bind (wpAny_standAt (wpAny_bind ?_));show wpAny _ A (do let _ <-comprehension (.DictComp kx vx [⟨target,iter,ifs,0⟩] scope pos) scope env _ newDict false (eval iter env) (some (assign (.Name y py) env))) _ _ s;refine wpAny_bind (wpAny_mono (wpAny_comprehension_free (use:=some (assign (.Name y py) env)) (Q:=λ_ s'=>wpAny (model PG w) A (execs rest env) Q E s') rfl (congrFun hs) hclos hkind hnames h) (λ_ s' hq=>wpAny_pure (wpAny_pure hq)) λ_ _ e=>e)
theorem takeL {D:Addr} {vs:List Value} {k:Nat} (S:St B L m g s) (hD:s.heap.get? D=some (listOf vs.toArray k)) (a:Away B L g [D] s.heap):∃ o,And3 (OL vs o) (St B L m (put g D o) s) (g D=none):=
 ⟨_,⟨k,rfl⟩,S.takeA a hD,a.g _ (.head _)⟩
theorem takeD {D:Addr} {kvs:List (Str×Value)} (S:St B L m g s) (hD:s.heap.DictOf (strKind PG w) D kvs) (a:Away B L g [D] s.heap):∃ o,And3 (OD w kvs o) (St B L m (put g D o) s) (g D=none):=by
 obtain ⟨o,ho,x⟩:=OD.of hD;exact ⟨o,x,S.takeA a ho,a.g _ (.head _)⟩
theorem o_enumerate {l:Addr} {vs:List Value} {o:Obj} {Q:Value->Shared->Prop} (S:St B L m g s) (h:g l=some o) (x:OL vs o)
  (hq:∀ s' e,St B L m g s'->(∀ {A':Around} {elts k pos},A'.handled=none->OpensG B A' L m g s' (.Tuple elts k pos) (.ref e) vs.length (λi v h=>Ex3 λT t y=>And3 (v=.ref T) (vs[i]?=some y) (h.IsTuple T [.int i t,y].toArray)) [l])->Q (.ref e) s'):wpAny (model PG w) A (call (.type "enumerate") [.ref l]) Q E s:=by
 obtain ⟨n,rfl⟩:=x;have hl:=S.sub h;refine call_enumerate_1 hl λh' he hi hsz hk=>?_;have S':St B L m g { s with heap:=h' }:=S.grow hk s.toks;have hz:=S.kp.size;have ne1:s.heap.objs.size + 1≠s.heap.objs.size:=by exact om18
 refine hq _ _ S' λ{A' elts k pos} hh Q E hQ=>?_;refine wpAny_pyIter_enum he ?_;have ll:=Heap.lt_size hl;have W:=WalksT.enumerate (prog:=PG) (w:=w) (A:=A') hh (s.heap.objs.size + 1) s.heap.objs.size l ne1 (Nat.ne_of_lt (Nat.lt_succ_of_lt ll)) (Nat.ne_of_lt ll) vs.toArray;have W':=WG.ofT (w:=w) (elts:=elts) (k:=k) (pos:=pos) W
 have W'':WG w A' (.Tuple elts k pos) (s.heap.objs.size + 1) [s.heap.objs.size + 1,s.heap.objs.size,l] [s.heap.objs.size + 1,s.heap.objs.size] vs.length (λi v h=>Ex3 λT t y=>And3 (v=.ref T) (vs[i]?=some y) (h.IsTuple T [.int i t,y].toArray)) _:=
  {frame:=W'.frame,done:=λs Q E st hQ=>W'.done s Q E (by simpa using st) hQ,self:=W'.self,
   item:=λi s K E hi st hK=>W'.item i s K E (by simpa using hi) st λv h' tk ⟨T,vals,e1,⟨t,y,e2,e3⟩,e4⟩=>hK v h' tk ⟨T,t,y,e1,by simpa using e2,by rw [e3] at e4;exact e4⟩ }
 refine hQ _ _ _ _ [s.heap.objs.size + 1,s.heap.objs.size] _ S' W'' (λi h st b hb=>?_) ?_ (λb hb=>hb) ?_ (λb hb hn=>?_)
 ·obtain ⟨⟨old,he⟩,⟨o,ho,_⟩,_⟩:=st;rcases List.mem_cons.mp hb with rfl|hb
  ·exact ⟨_,he⟩
  ·cases List.mem_singleton.mp hb;exact ⟨_,ho⟩
 ·have lt:∀ b∈[s.heap.objs.size + 1,s.heap.objs.size],s.heap.objs.size≤b:=λb hb=>by
   rcases List.mem_cons.mp hb with rfl|hb
   ·exact Nat.le_succ _
   ·cases List.mem_singleton.mp hb;exact Nat.le_refl _
  refine ⟨λb hb=>?_,λb hb=>?_,λb hb=>?_,λb hb=>?_,λb hb=>?_,λb hb=>?_⟩ <;> have hb':=lt b hb
  ·exact S.kp.freshB hb'
  ·exact S.kp.fresh hb'
  ·exact Nat.ne_of_gt (Nat.lt_of_lt_of_le S.ns.lt hb')
  ·exact Nat.ne_of_gt (Nat.lt_of_lt_of_le hz.1 hb')
  ·exact Nat.ne_of_gt (Nat.lt_of_lt_of_le hz.2 hb')
  ·rcases List.mem_cons.mp hb with rfl|hb
   ·exact ⟨_,he⟩
   ·cases List.mem_singleton.mp hb;obtain ⟨o,ho,_⟩:=hi;exact ⟨_,ho⟩
 ·exact ⟨⟨_,he⟩,hi,⟨_,hk _ _ hl,rfl,n,rfl⟩⟩
 ·rcases List.mem_cons.mp hb with rfl|hb
  ·exact absurd (.head _) hn
  ·rcases List.mem_cons.mp hb with rfl|hb
   ·exact absurd (.tail _ (.head _)) hn
   ·cases List.mem_singleton.mp hb;exact .inr ⟨.head _,_,h⟩
end
section
variable {w:World} {B:Bs w} {A:Around} {L:Addr} {m m':Str->Option Value} {g g':PH} {s:Shared} {env:Env} {E:Value->Shared->Prop} {pl:Sem Bool}
theorem o_zip {l1 l2:Addr} {vs ws:List Value} {o1 o2:Obj} {Q:Value->Shared->Prop} (S:St B L m g s) (h1:g l1=some o1) (x1:OL vs o1) (h2:g l2=some o2) (x2:OL ws o2) (hn:vs.length=ws.length)
  (hq:∀ s' e,St B L m g s'->(∀ {A':Around} {elts k pos},A'.handled=none->OpensG B A' L m g s' (.Tuple elts k pos) (.ref e) vs.length (λi v h=>Ex3 λT x y=>And4 (v=.ref T) (vs[i]?=some x) (ws[i]?=some y) (h.IsTuple T [x,y].toArray)) [l1,l2])->Q (.ref e) s'):wpAny (model PG w) A (call (.type "zip") [.ref l1,.ref l2]) Q E s:=by
 have hl1:=x1.isList (S.sub h1);have hl2:=x2.isList (S.sub h2);have ll1:=Heap.lt_size (S.sub h1);have ll2:=Heap.lt_size (S.sub h2);refine call_zip_2 hl1 hl2 λh' hz hTI hTO hi1 hi2 hsz hk=>?_;have S':St B L m g { s with heap:=h' }:=S.grow hk s.toks;have hzz:=S.kp.size;have frB:∀ b,s.heap.objs.size≤b->B.base b=none:=λb hb=>S.kp.freshB hb;have frG:∀ b,s.heap.objs.size≤b->g b=none:=λb hb=>S.kp.fresh hb;have frL:∀ b,s.heap.objs.size≤b->b≠L:=λb hb=>Nat.ne_of_gt (Nat.lt_of_lt_of_le S.ns.lt hb);have fr1:∀ b,s.heap.objs.size≤b->b≠321:=λb hb=>Nat.ne_of_gt (Nat.lt_of_lt_of_le hzz.1 hb);have fr2:∀ b,s.heap.objs.size≤b->b≠293:=λb hb=>Nat.ne_of_gt (Nat.lt_of_lt_of_le hzz.2 hb);generalize s.heap.objs.size=N at *;have lt:∀ j,N≤N + j:=λj=>Nat.le_add_right ..;have ne:∀ i j:Nat,i≠j->N + i≠N + j:=λi j h e=>h (Nat.add_left_cancel e);have n0:∀ j:Nat,j≠0->N≠N + j:=λj h e=>h (Nat.add_left_cancel (n:=N) (by rw [Nat.add_zero];exact e.symm));have l1n:∀ j,l1≠N + j:=λj=>Nat.ne_of_lt (Nat.lt_of_lt_of_le ll1 (lt j));have l2n:∀ j,l2≠N + j:=λj=>Nat.ne_of_lt (Nat.lt_of_lt_of_le ll2 (lt j));refine hq _ _ S' λ{A' elts k pos} hh Q E hQ=>?_;refine wpAny_pyIter_zip hz ?_;have ap:ZipApart (N + 4) (N + 2) (N + 3) N (N + 1) l1 l2:=⟨ne _ _ (by decide),ne _ _ (by decide),n0 _ (by decide),ne _ _ (by decide),ne _ _ (by decide),(n0 _ (by decide)).symm,ne _ _ (by decide),(n0 _ (by decide)).symm,ne _ _ (by decide),n0 _ (by decide),l1n _,l1n _,l1n 0,l1n _,l2n _,l2n _,l2n 0,l2n _⟩;have W:=WalksT.zip2 (prog:=PG) (w:=w) (A:=A') hh (N + 4) (N + 2) (N + 3) N (N + 1) l1 l2 ap vs.toArray ws.toArray;have W':=WG.ofT (w:=w) (elts:=elts) (k:=k) (pos:=pos) W;have hmin:min vs.toArray.size ws.toArray.size=vs.length:=by simp [hn]
 have W'':WG w A' (.Tuple elts k pos) (N + 4) [N + 4,N + 2,N + 3,N,N + 1,l1,l2] [N + 4,N + 3,N,N + 1] vs.length (λi v h=>Ex3 λT x y=>And4 (v=.ref T) (vs[i]?=some x) (ws[i]?=some y) (h.IsTuple T [x,y].toArray)) _:=
  {frame:=W'.frame,done:=λs Q E st hQ=>W'.done s Q E (by rw [hmin];exact st) hQ,self:=W'.self,
   item:=λi s K E hi st hK=>W'.item i s K E (by rw [hmin];exact hi) st λv h' tk ⟨T,vals,e1,⟨x,y,e2,e2',e3⟩,e4⟩=>hK v h' tk ⟨T,x,y,e1,by simpa using e2,by simpa using e2',by rw [e3] at e4;exact e4⟩ }
 have st0:IsZip h' (N + 4) (N + 2) (N + 3) .none∧IsPair h' (N + 2) (.ref N) (.ref (N + 1))∧(∃ a b,IsPair h' (N + 3) a b)∧h'.IsListIter N l1 0∧h'.IsListIter (N + 1) l2 0∧h'.IsList l1 vs.toArray∧h'.IsList l2 ws.toArray:=
  ⟨hz,hTI,⟨_,_,hTO⟩,hi1,hi2,hl1.at λo e=>hk _ _ e,hl2.at λo e=>hk _ _ e⟩
 have exi:∀ b∈[N + 4,N + 2,N + 3,N,N + 1],∃ o,h'.get? b=some o:=mc ⟨_,hz⟩ (mc ⟨_,hTI⟩ (mc ⟨_,hTO⟩ (mc (let ⟨o,e,_⟩:=hi1;⟨o,e⟩) (mc (let ⟨o,e,_⟩:=hi2;⟨o,e⟩) mn))));have lt':∀ b∈[N + 4,N + 2,N + 3,N,N + 1],N≤b:=mc (lt _) (mc (lt _) (mc (lt _) (mc (Nat.le_refl _) (mc (lt _) mn))));refine hQ _ _ _ _ [N + 4,N + 2,N + 3,N,N + 1] _ S' W'' (λi h st=>?_) ⟨λb hb=>frB b (lt' b hb),λb hb=>frG b (lt' b hb),λb hb=>frL b (lt' b hb),λb hb=>fr1 b (lt' b hb),λb hb=>fr2 b (lt' b hb),exi⟩ ?_ st0 ?_
 ·obtain ⟨a1,a2,⟨_,_,a3⟩,⟨_,a4,_⟩,⟨_,a5,_⟩,_⟩:=st;exact mc ⟨_,a1⟩ (mc ⟨_,a3⟩ (mc ⟨_,a4⟩ (mc ⟨_,a5⟩ mn)))
 ·exact mc (.head _) (mc (.tail _ (.tail _ (.head _))) (mc (.tail _ (.tail _ (.tail _ (.head _)))) (mc (.tail _ (.tail _ (.tail _ (.tail _ (.head _))))) mn)))
 ·exact mc (λn=>absurd (.head _) n) (mc (λn=>absurd (.tail _ (.head _)) n) (mc (λn=>absurd (.tail _ (.tail _ (.head _))) n) (mc (λn=>absurd (.tail _ (.tail _ (.tail _ (.head _)))) n) (mc (λn=>absurd (.tail _ (.tail _ (.tail _ (.tail _ (.head _))))) n) (mc (λ_=>.inr ⟨.head _,_,h1⟩) (mc (λ_=>.inr ⟨.tail _ (.head _),_,h2⟩) mn))))))
end
noncomputable def IL (g:PH) (l:Addr) (ns:List Int):Prop:=Ex2 λo vs=>And3 (g l=some o) (OL vs o) (IntsAre vs ns)
noncomputable def insAt (row:List Str) (k:Nat) (x:Str):List Str:=row.take k ++ x :: row.drop k
noncomputable def rowF:List Str->Nat->List (Str×Int)->List Str
 |row,_,[]=>row
 |row,k,(n,c) :: r=>rowF (insAt row ((c.fdiv 7).fmod ((k:Int) + 1)).toNat n) (k + 1) r
noncomputable def gParent (row:List Str) (cs:List Int) (k:Nat):Str:=if 0 < k then (row[(((cs.getD k 0).fdiv 2940).fmod k).toNat]?).getD (Str.ofString "") else Str.ofString ""
noncomputable def gSeq (row:List Str) (cs:List Int):Nat->List Str->List (Str×Str)
 |_,[]=>[]
 |k,x :: r=>(x,gParent row cs k) :: gSeq row cs (k + 1) r
theorem rowF_n {row:List Str} {k:Nat}:rowF row k []=row:=rfl
theorem gSeq_c {row:List Str} {cs:List Int} {k:Nat} {x:Str} {r:List Str}:gSeq row cs k (x :: r)=(x,gParent row cs k) :: gSeq row cs (k + 1) r:=rfl
section
variable {w:World} {B:Bs w} {A:Around} {L:Addr} {m m':Str->Option Value} {g g':PH} {s:Shared} {env:Env} {E:Value->Shared->Prop} {pl:Sem Bool}
theorem IL.sub {l:Addr} {ns:List Int} (h:IL g l ns) (k:Sub g g'):IL g' l ns:=let ⟨o,vs,a,b,c⟩:=h;⟨o,vs,k _ _ a,b,c⟩
theorem a_tuple2 {e1 e2:Expr} {k:Nat} {pos:Pos} {t:Addr} {a b:Value} {Q:Unit->Shared->Prop} (S:St B L m g s) (hh:A.handled=none) (ht:s.heap.IsTuple t [a,b].toArray)
  (h:∀ s',St B L m g s'->wpAny (model PG w) A (assign e1 env a) (λ_ s₁=>wpAny (model PG w) A (assign e2 env b) Q E s₁) E s')
  (he:(assignEach [e1,e2] env).map (·.2)=[assign e1 env,assign e2 env]:=by rfl) (hn:(assignEach [e1,e2] env).length=2:=by rfl) (hstar:(assignEach [e1,e2] env).findIdx? (·.1)=none:=by rfl) :
  wpAny (model PG w) A (assign (.Tuple [e1,e2] k pos) env (.ref t)) Q E s:=by
 refine a_tuple S hh ht (λs' S'=>?_) hn hstar;rw [he];exact ai_cons (wpAny_mono (h _ S') (λ_ s₁ h₁=>ai_cons (wpAny_mono h₁ (λ_ s₂ h₂=>ai_nil h₂) λ_ _ e=>e)) λ_ _ e=>e)
theorem SL.at {l:Addr} {ss:List Str} {i:Nat} {x:Str} (h:SL g l ss) (K:Kp B g s) (hx:ss[i]?=some x):Ex2 λ(vs:List Value) (t:Tok)=>s.heap.IsList l vs.toArray∧vs[i]?=some (.str x t):=by
 obtain ⟨o,vs,h1,h2,h3⟩:=h;obtain ⟨t,ht⟩:=h3.at hx;exact ⟨vs,t,h2.isList (K.sub _ _ h1),ht⟩
theorem IL.at {l:Addr} {ns:List Int} {i:Nat} {x:Int} (h:IL g l ns) (K:Kp B g s) (hx:ns[i]?=some x):Ex2 λ(vs:List Value) (t:Tok)=>s.heap.IsList l vs.toArray∧vs[i]?=some (.int x t):=by
 obtain ⟨o,vs,h1,h2,h3⟩:=h;obtain ⟨t,ht⟩:=h3.get i x hx;exact ⟨vs,t,h2.isList (K.sub _ _ h1),ht⟩
theorem t_sl {value sl:Expr} {l:Addr} {ss:List Str} {k:Int} {t:Tok} {x:Str} {Q:Value->Shared->Prop} (S:St B L m g s) (hl:SL g l ss) (h0:0≤k) (h1:k < 2 ^ 63) (hx:ss[k.toNat]?=some x) (h:∀ u,Q (.str x u) s)
  (hs:subscripted sl false (.ref l) (.int k t)=operate [.ref l,.int k t] (getItem (.ref l) (.int k t)):=by with_unfolding_all rfl) :
  wpAny (model PG w) A (subscriptTail value sl (.ref l) (.int k t)) Q E s:=by
 obtain ⟨vs,u,e1,e2⟩:=hl.at S.kp hx;exact t_item e1 h0 h1 e2 (h u) hs
theorem t_il {value sl:Expr} {l:Addr} {ss:List Int} {k:Int} {t:Tok} {x:Int} {Q:Value->Shared->Prop} (S:St B L m g s) (hl:IL g l ss) (h0:0≤k) (h1:k < 2 ^ 63) (hx:ss[k.toNat]?=some x) (h:∀ u,Q (.int x u) s)
  (hs:subscripted sl false (.ref l) (.int k t)=operate [.ref l,.int k t] (getItem (.ref l) (.int k t)):=by with_unfolding_all rfl) :
  wpAny (model PG w) A (subscriptTail value sl (.ref l) (.int k t)) Q E s:=by
 obtain ⟨vs,u,e1,e2⟩:=hl.at S.kp hx;exact t_item e1 h0 h1 e2 (h u) hs
theorem strs_insAt {vs:List Value} {row:List Str} {k:Nat} {x:Str} {t:Tok} (h:StrsAre vs row):StrsAre (vs.take k ++ .str x t :: vs.drop k) (insAt row k x):=by
 unfold insAt
 induction h generalizing k with
 |nil=>simpa using StrsAre.cons _ _ .nil
 |cons y u h' ih=>
  cases k with
  |zero=>exact .cons _ _ (.cons _ _ h')
  |succ k=>exact .cons _ _ ih
theorem drop_at {α:Type}:∀ {l:List α} {i:Nat} {x:α},l[i]?=some x->l.drop i=x :: l.drop (i + 1)
 |[],i,x,h=>by simp at h
 |y :: r,0,x,h=>by simp at h;simp [h]
 |y :: r,i + 1,x,h=>by simpa using drop_at (l:=r) (i:=i) (by simpa using h)
theorem mod_range {c:Int} {k:Nat}:0≤c.fmod ((k:Int) + 1)∧c.fmod ((k:Int) + 1) < (k:Int) + 1:=by
 rw [Int.fmod_eq_emod_of_nonneg _ (by exact om19)];exact ⟨Int.emod_nonneg _ (by exact om20),Int.emod_lt_of_pos _ (by exact om21)⟩
theorem len_insAt {row:List Str} {k:Nat} {x:Str}:(insAt row k x).length=row.length + 1:=by
 unfold insAt;simp;exact om22
theorem noPy (x:Int) {y:Int} (h:y.natAbs < 1000000):Builtin.divisionGoesByPylong x y=false:=PyProof.noPylong_small (by exact Nat.lt_of_lt_of_le ‹_› (by decide))
theorem Grow.weaken {g₀ g₁:PH} {lR:Addr} {oR:Obj} {d:Addr} {es:List Ent} {ths:List Th} (G:Grow w (put g₀ lR oR) g₁ d es ths) (h:g₀ lR=none):Grow w g₀ g₁ d es ths∧(∀ e∈es,e.rl≠lR)∧d≠lR:=by
 have key:∀ a,put g₀ lR oR a=none->g₀ a=none∧a≠lR:=λa ha=>by
  have:a≠lR:=by rintro rfl;rw [put_self] at ha;cases ha
  exact ⟨by rw [put_ne this] at ha;exact ha,this⟩
 exact ⟨⟨G.T,G.e,G.nd,(Sub.put h).trans G.sub,λe he=>(key _ (G.nrl e he)).1,(key _ G.nd₀).1⟩,λe he=>(key _ (G.nrl e he)).2,(key _ G.nd₀).2⟩
theorem Grow.strengthen {g₀ g₁:PH} {lR:Addr} {oR:Obj} {d:Addr} {es:List Ent} {ths:List Th} (G:Grow w g₀ g₁ d es ths) (h:g₁ lR=some oR) (hn:∀ e∈es,e.rl≠lR) (hd:d≠lR):Grow w (put g₀ lR oR) g₁ d es ths:=by
 refine ⟨G.T,G.e,G.nd,λb o e=>?_,λe he=>by rw [put_ne (hn e he)];exact G.nrl e he,by rw [put_ne hd];exact G.nd₀⟩
 by_cases hb:b=lR
 ·subst hb;rw [put_self] at e;cases e;exact h
 ·rw [put_ne hb] at e;exact G.sub _ _ e
theorem Grow.list {g₀ g₁:PH} {lR:Addr} {oR o':Obj} {vs:List Value} {d:Addr} {es:List Ent} {ths:List Th} (G:Grow w g₀ g₁ d es ths) (h:g₁ lR=some oR) (hl:OL vs oR) (h0:g₀ lR=none) (hn:∀ e∈es,e.rl≠lR):Grow w g₀ (put g₁ lR o') d es ths:=by
 have ch:Chg [lR] g₁ (put g₁ lR o'):=Chg.put (by simp);have ls:Lists g₁ [lR]:=.one h hl;obtain ⟨o,ho,od⟩:=G.T.od;refine ⟨⟨⟨o,ch _ _ (ls.not ho (by rw [od.cls];intro e;exact absurd (Value.type.inj e) (by decide))) ho,od⟩,λe he=>(G.T.th e he).chg ch ls (by simpa using hn e he),G.T.nd,G.T.dd⟩,G.e,G.nd,λb o e=>?_,G.nrl,G.nd₀⟩;rw [put_ne (by rintro rfl;rw [h0] at e;cases e)];exact G.sub _ _ e
theorem ite_str {c:Prop} [Decidable c] {e1 e2:Expr} {y:Str} {Q:Value->Shared->Prop} (S:St B L m g s) (h1:c->∀ Q':Value->Shared->Prop,(∀ s' u,St B L m g s'->Q' (.str y u) s')->wpAny (model PG w) A (eval e1 env) Q' E s)
  (h2:¬ c->∀ Q':Value->Shared->Prop,(∀ s' u,St B L m g s'->Q' (.str y u) s')->wpAny (model PG w) A (eval e2 env) Q' E s) (hQ:∀ s' u,St B L m g s'->Q (.str y u) s'):if c then wpAny (model PG w) A (eval e1 env) Q E s else wpAny (model PG w) A (eval e2 env) Q E s:=by
 by_cases h:c
 ·rw [if_pos h];exact h1 h _ hQ
 ·rw [if_neg h];exact h2 h _ hQ
theorem sp_grown {lN lC:Addr} {nm:List Str} {cs:List Int} {ths:List Th} {last:Str} (K:Kp B g s) (hr:Rm A 8) (hh:A.handled=none) (hN:SL g lN nm) (hC:IL g lC cs) (h7:nm.length=7) (h7':cs.length=7)
  (hg:hangAll root0 (gSeq (rowF [] 0 (nm.zip cs)) cs 0 (rowF [] 0 (nm.zip cs)))=some ths) (hlast:(rowF [] 0 (nm.zip cs))[((((cs.getD 0 0).fdiv 2940)).fmod 7).toNat]?=some last) :
  codeAny (model PG w) A (.call (.ref 305) ⟨[.ref lN,.ref lC],[]⟩) (λr s'=>Ex5 λT d es g' tk=>And4 (r=.ok (.ret (.ref T))) (s'.heap.IsTuple T [Value.ref d,.str last tk].toArray) (Kp B g' s') (Grow w g g' d es ths)) s:=by
 refine call_fnA (binds:=[(Str.ofString "names",.ref lN),(Str.ofString "cells",.ref lC)]) K hr hh (by rfl) (by kernel_rfl) (BindsTo.of_eq rfl) (by rfl) (λA L s E hr hh S=>?_);intro _ _;refine in_envX ?_;intro _;have sz:=sizeLine_eq;refine x_swap2 (x:=Str.ofString "row") (y:=Str.ofString "grown") ?hh ?_ ?hs ?hw
 ((case hs=>rfl);(case hw=>with_unfolding_all rfl);(case hh=>assumption))
 walk_at "J";refine n_list S λs lR oR olR nR _ _ S=>?_;walk_at "J";refine r_root (x:=Str.ofString "") (y:=Str.ofString "/") (tn:=Str.ofString "_law_thing") S (hr.le (by decide)) λs d es g₁ G S=>?_;walk_at "J";refine n_tuple ‹_› λs l hl S=>?_;refine ⟨l,_,_,_,_,_,_,rfl,hl,S,λs S=>?_⟩;walk_at "J";obtain ⟨G,hnR,dR⟩:=G.weaken nR;have ⟨oC,vC,hC1,hC2,hC3⟩:=hC;have hC1':=G.sub _ _ hC1;have lvC:=hC3.length
 have hR:g₁ lR=some oR:=by
  have:=‹Grow w (put g lR oR) g₁ d es root0›.sub _ _ (put_self ..);exact this
 refine o_enumerate ‹_› hC1' hC2 λs e S OE=>?_;walk_at "J"
 refine for_G (OE hh) (λi m' g'=>Ex4 λes o vs row=>And11 (Grow w g g' d es root0) ((∀ e∈es,e.rl≠lR)) (g' lR=some o) (OL vs o) (StrsAre vs row) (row.length=i) (m' (Str.ofString "row")=some (.ref lR)) (m' (Str.ofString "grown")=some (.ref d)) (m' (Str.ofString "names")=some (.ref lN)) (m' (Str.ofString "cells")=some (.ref lC)) (rowF row i ((nm.zip cs).drop i)=rowF [] 0 (nm.zip cs))) (λ_ _ _=>False)
  ⟨es,oR,[],[],G,hnR,hR,olR,.nil,rfl,by walk_at "J.m",by walk_at "J.m",by walk_at "J.m",by walk_at "J.m",rfl⟩ ?_ ?_ ?_ (λ_ _ _ _ h=>h.elim)
 ·rintro i m' g'' ⟨_,_,_,_,G',_⟩;exact keep1 (hC1') (G'.sub _ _ hC1)
 ·rintro i v m' g' s₁ B' E₁ _ hi ⟨T,t,y,rfl,hy,hT⟩ ⟨es,o,vs,row,G,hnR,hR,olR,hvs,hlen,h1,h2,h3,h4,h5⟩ S₁;refine gq λ_ z3=>?_;obtain ⟨c,tc,rfl,hc⟩:=hC3.at _ _ hy;obtain ⟨n,hn⟩:∃ n,nm[i]?=some n:=⟨_,List.getElem?_eq_getElem (by exact om23 h7 h7' lvC hi hlen)⟩;refine z3 ?_;have hd:=drop_at (l:=nm.zip cs) (List.getElem?_zip_eq_some (z:=(n,c)).mpr ⟨hn,hc⟩);rw [hd] at h5;walk_at "J";refine a_tuple2 S₁ hh hT λs S=>?_;walk_at "J";refine r_meth F.plainAttrs_list F.slot_list_insert F.type_list_insert ?_;walk_at "J";refine ⟨olR.typeIs (St.sub ‹_› hR),λa e=>by cases e;exact ⟨_,St.sub ‹_› hR,by obtain ⟨n,rfl⟩:=olR;rfl⟩,?_⟩;walk_at "J";refine o_divI ‹_› (by decide) (noPy _ (by decide)) λs tk S=>?_;walk_at "J";refine o_addI ‹_› λs tk S=>?_;walk_at "J";refine o_modI ‹_› (by exact om24 h7' lvC hi hlen) λs tk S=>?_;walk_at "J";refine t_sl ‹_› (hN.sub G.sub) (by exact om25 h7' lvC hi hlen) (by exact om26 h7' lvC hi hlen) (by simpa using hn) λu=>?_;walk_at "J";have lv:=hvs.len_eq;have mr:=mod_range (c:=c.fdiv 7) (k:=i);refine o_insert ‹_› hR olR (by exact om27 h7' sz lvC hi hlen lv) mr.1 (by exact om28 hlen lv mr) λs o' olR' S=>?_;walk_at "J";refine ⟨_,_,‹_›,es,o',_,_,G.list hR olR nR hnR,hnR,put_self ..,olR',strs_insAt hvs,by rw [len_insAt,hlen],by walk_at "J.m",by walk_at "J.m",by walk_at "J.m",by walk_at "J.m",?_⟩;rw [<-h5]
  rfl
 ·rintro m' g' s₁ E₁ ⟨es,o,vs,row,G,hnR,hR,olR,hvs,hlen,h1,h2,h3,h4,h5⟩ S₁;rw [List.drop_eq_nil_iff.mpr (by simp;exact om29 h7 h7' lvC)] at h5;rw [rowF_n] at h5;have hdR:d≠lR:=dR;have G:=G.strengthen hR hnR hdR;have hSL:SL (put g lR o) lR row:=⟨o,vs,put_self ..,olR,hvs⟩;have subR:Sub g (put g lR o):=Sub.put nR;rw [<-h5] at hg hlast;walk_at "J";refine o_enumerate ‹_› hR olR λs e S OE=>?_;walk_at "J"
  refine for_G (OE hh) (λi m' g'=>Ex2 λes t=>And6 (Grow w (put g lR o) g' d es t) (m' (Str.ofString "row")=some (.ref lR)) (m' (Str.ofString "grown")=some (.ref d)) (m' (Str.ofString "names")=some (.ref lN)) (m' (Str.ofString "cells")=some (.ref lC)) (hangAll t (gSeq row cs i (row.drop i))=some ths)) (λ_ _ _=>False)
   ⟨es,_,G,h1,h2,h3,h4,hg⟩ ?_ ?_ ?_ (λ_ _ _ _ h=>h.elim)
  ·rintro i m' g'' ⟨_,_,G',_⟩;exact keep1 (hR) (G'.sub _ _ (put_self ..))
  ·rintro i v m' g' s₁ B' E₁ _ hi ⟨T,t,y,rfl,hy,hT⟩ ⟨es,t,G,h1,h2,h3,h4,h5⟩ S₁;refine gq λ_ z4=>?_;obtain ⟨x,tx,rfl,hx⟩:=hvs.item _ _ hy;rw [drop_at hx,gSeq_c] at h5;obtain ⟨t',ht',h5⟩:=hangAll_cons h5;obtain ⟨v,hv⟩:=hang_par G.e ht';refine z4 ?_;walk_at "J";refine a_tuple2 S₁ hh hT λs S=>?_;walk_at "J";refine gq λ_ z5=>?_;obtain ⟨oT,hT',odT⟩:=G.T.od;have hrl:row.length=7:=by rw [hlen];simpa using lvC.trans h7'
   have hi7:i < 7:=by have:=hvs.len_eq;exact Nat.lt_of_lt_of_eq ‹_› (Eq.trans ‹_› ‹_›)
   obtain ⟨c,hc⟩:∃ c,cs[i]?=some c:=⟨_,List.getElem?_eq_getElem (by exact Nat.lt_of_lt_of_eq ‹_› (Eq.symm ‹_›))⟩;refine z5 ?_;have ec:cs.getD i 0=c:=by rw [List.getD_eq_getElem?_getD,hc];rfl
   refine gt_int ?_;walk_at "J";refine ite_str (y:=gParent row cs i) ‹_› (λh Q' hQ'=>?_) (λh Q' hQ'=>?_) λs u S=>?_
   ·have hi0:0 < i:=by simpa using h
    have m1:0≤(c.fdiv 2940).fmod i∧(c.fdiv 2940).fmod i < i:=by
     rw [Int.fmod_eq_emod_of_nonneg _ (by exact om30 hi7 hi0)];exact ⟨Int.emod_nonneg _ (by exact om31 hi7 hi0),Int.emod_lt_of_pos _ (by exact om32 hi7 hi0)⟩
    walk_at "J";refine t_il ‹_› (hC.sub (subR.trans G.sub)) (by exact om30 hi7 hi0) (by exact om33 hi7 hi0) (by simpa using hc) λu=>?_;walk_at "J";refine o_divI ‹_› (by decide) (noPy _ (by decide)) λs tk S=>?_;walk_at "J";refine o_modI ‹_› (by exact om31 hi7 hi0) λs tk S=>?_;walk_at "J";refine t_sl (x:=gParent row cs i) ‹_› (hSL.sub G.sub) m1.1 (by exact om34 hi7 hi0 m1) ?_ λu=>hQ' _ _ ‹_›;unfold gParent;rw [if_pos hi0,ec,List.getElem?_eq_getElem (by exact om35 h7' lvC hlen hi7 hi0 m1)]
    rfl
   ·have hi0:¬ 0 < i:=by simpa using h
    have e:gParent row cs i=Str.ofString "":=by unfold gParent;rw [if_neg hi0]
    rw [e] at hQ';walk_at "J";exact hQ' _ _ ‹_›
   ·walk_at "J";refine t_dict ‹_› (odT.dictOf (St.sub ‹_› hT')) hv λs S=>?_;walk_at "J";refine c_hang ‹_› G ht' hv (hr.le (by decide)) hh λs f g₂ S set sub₂ _=>?_;walk_at "J";refine set _ _ _ _ _ _ _ rfl ‹_› λs es' g₃ G S=>?_;walk_at "J";exact ⟨_,_,‹_›,es',t',G,by walk_at "J.m",by walk_at "J.m",by walk_at "J.m",by walk_at "J.m",h5⟩
  ·rintro m' g' s₁ E₁ ⟨es,t,G,h1,h2,h3,h4,h5⟩ S₁;rw [List.drop_eq_nil_iff.mpr (by have:=hvs.len_eq;exact n_e (Eq.symm ‹_›))] at h5;cases h5;obtain ⟨c,c0⟩:∃ c,cs[0]?=some c:=⟨_,List.getElem?_eq_getElem (by exact om36 h7')⟩;have ec:cs.getD 0 0=c:=by rw [List.getD_eq_getElem?_getD,c0];rfl
   rw [ec] at hlast;walk_at "J";refine t_il ‹_› (hC.sub (subR.trans G.sub)) (by decide) (by decide) (by simpa using c0) λu=>?_;walk_at "J";refine o_divI ‹_› (by decide) (noPy _ (by decide)) λs tk S=>?_;walk_at "J";refine o_modI ‹_› (by decide) λs tk S=>?_
   have m1:0≤(c.fdiv 2940).fmod 7∧(c.fdiv 2940).fmod 7 < 7:=by
    rw [Int.fmod_eq_emod_of_nonneg _ (by decide)];exact ⟨Int.emod_nonneg _ (by decide),Int.emod_lt_of_pos _ (by decide)⟩
   walk_at "J";refine t_sl ‹_› (hSL.sub G.sub) m1.1 (by exact om37 m1) hlast λu=>?_;walk_at "J";refine n_tuple ‹_› λs T hT S=>?_;obtain ⟨G,_,_⟩:=G.weaken nR;walk_at "J";exact ⟨T,d,es,_,u,rfl,hT,S.kp,G⟩
end
noncomputable def sNode:Str:=Str.ofString "node"
noncomputable def sNp:Str:=Str.ofString "npredecessors"
noncomputable def sSucc:Str:=Str.ofString "successors"
noncomputable abbrev nodeO (dx sl:Addr) (n:Str) (t:Tok) (np:Int) (t':Tok):Obj:=ins 40 dx #[some (.str n t),some (.int np t'),some (.ref sl)]
structure Node where
 n:Str
 x:Addr
 dx:Addr
 sl:Addr
 np:Int
 succ:List Str
noncomputable def NodeAt (g:PH) (nd:Node):Prop:=Ex5 λod osl vs t t'=>And5 (g nd.x=some (nodeO nd.dx nd.sl nd.n t nd.np t')) (g nd.dx=some od) (g nd.sl=some osl) (OL vs osl) (StrsAre vs nd.succ)
noncomputable def sN2i:Str:=Str.ofString "_node2info"
noncomputable def sRdy:Str:=Str.ofString "_ready_nodes"
noncomputable def sPo:Str:=Str.ofString "_npassedout"
noncomputable def sFi:Str:=Str.ofString "_nfinished"
noncomputable def ksS:List Str:=[sN2i,sRdy,sPo,sFi]
structure Srt (w:World) (F g:PH) (x sdx d:Addr) (nodes:List Node) (rv:Value) (po fi:Int):Prop where
 x_:g x=some (ins 137 sdx #[])
 sd_:Ex4 λod mA tp tf=>g sdx=some od∧And5 (OA ksS mA od) (mA sN2i=some (.ref d)) (mA sRdy=some rv) (mA sPo=some (.int po tp)) (mA sFi=some (.int fi tf))
 d_:∃ o,g d=some o∧OD w (nodes.map λnd=>(nd.n,.ref nd.x)) o
 nd_:∀ nd∈nodes,NodeAt g nd
 nx:(nodes.map (·.x)).Nodup
 nsl:(nodes.map (·.sl)).Nodup
 sd_d:sdx≠d
 sub:Sub F g
 fx:F x=none
 fs:F sdx=none
 fd:F d=none
 fn:∀ nd∈nodes,F nd.x=none∧F nd.sl=none
section
variable {w:World} {B:Bs w} {A:Around} {L:Addr} {m m':Str->Option Value} {F g g':PH} {s:Shared} {env:Env} {E:Value->Shared->Prop} {pl:Sem Bool}
theorem NodeAt.sub {nd:Node} (h:NodeAt g nd) (k:Sub g g'):NodeAt g' nd:=by
 obtain ⟨od,osl,vs,t,t',h1,h2,h3,h4,h5⟩:=h;exact ⟨od,osl,vs,t,t',k _ _ h1,k _ _ h2,k _ _ h3,h4,h5⟩
theorem Srt.subg {x sdx d:Addr} {nodes:List Node} {rv:Value} {po fi:Int} (T:Srt w F g x sdx d nodes rv po fi) (k:Sub g g'):Srt w F g' x sdx d nodes rv po fi:=by
 obtain ⟨od,mA,tp,tf,h1,h2⟩:=T.sd_;obtain ⟨o,h3,h4⟩:=T.d_;exact ⟨k _ _ T.x_,⟨od,mA,tp,tf,k _ _ h1,h2⟩,⟨o,k _ _ h3,h4⟩,λnd h=>(T.nd_ nd h).sub k,T.nx,T.nsl,T.sd_d,T.sub.trans k,T.fx,T.fs,T.fd,T.fn⟩
theorem n_set0 {x dx:Addr} {od:Obj} {v:Value} {Q:Unit->Shared->Prop} (S:St B L m g s) (hx:g x=some (ins 40 dx #[])) (hd:g dx=some od) (h:∀ s',St B L m (put g x (ins 40 dx #[some v])) s'->Q () s'):wpAny (model PG w) A (setAttr (.ref x) sNode v) Q E s:=
 s_set S hx hd (by kernel_rfl) (by kernel_rfl) (by rfl) (by kernel_rfl) (i:=0) (by kernel_rfl) (by decide) rfl h
theorem n_set1 {x dx:Addr} {od:Obj} {a:Option Value} {v:Value} {Q:Unit->Shared->Prop} (S:St B L m g s) (hx:g x=some (ins 40 dx #[a])) (hd:g dx=some od) (h:∀ s',St B L m (put g x (ins 40 dx #[a,some v])) s'->Q () s'):wpAny (model PG w) A (setAttr (.ref x) sNp v) Q E s:=
 s_set S hx hd (by kernel_rfl) (by kernel_rfl) (by rfl) (by kernel_rfl) (i:=1) (by kernel_rfl) (by decide) rfl h
theorem n_set2 {x dx:Addr} {od:Obj} {a b:Option Value} {v:Value} {Q:Unit->Shared->Prop} (S:St B L m g s) (hx:g x=some (ins 40 dx #[a,b])) (hd:g dx=some od) (h:∀ s',St B L m (put g x (ins 40 dx #[a,b,some v])) s'->Q () s'):wpAny (model PG w) A (setAttr (.ref x) sSucc v) Q E s:=
 s_set S hx hd (by kernel_rfl) (by kernel_rfl) (by rfl) (by kernel_rfl) (i:=2) (by kernel_rfl) (by decide) rfl h
theorem n_setNp {x dx:Addr} {od:Obj} {a b c:Option Value} {v:Value} {Q:Unit->Shared->Prop} (S:St B L m g s) (hx:g x=some (ins 40 dx #[a,b,c])) (hd:g dx=some od) (h:∀ s',St B L m (put g x (ins 40 dx #[a,some v,c])) s'->Q () s'):wpAny (model PG w) A (setAttr (.ref x) sNp v) Q E s:=
 s_set S hx hd (by kernel_rfl) (by kernel_rfl) (by rfl) (by kernel_rfl) (i:=1) (by kernel_rfl) (by decide) rfl h
theorem n_getNode {x dx sl:Addr} {od:Obj} {n:Str} {t t':Tok} {np:Int} {ex:Bool} {Q:Value->Shared->Prop} (S:St B L m g s) (hx:g x=some (nodeO dx sl n t np t')) (hd:g dx=some od) (h:∀ s',St B L m g s'->Q (.str n t) s'):wpAny (model PG w) A (getAttr (.ref x) sNode ex) Q E s:=
 s_get S hx hd (i:=0) rfl (by kernel_rfl) (by kernel_rfl) (by rfl) (by kernel_rfl) (by kernel_rfl) (by kernel_rfl) rfl h
theorem n_getNp {x dx sl:Addr} {od:Obj} {n:Str} {t t':Tok} {np:Int} {ex:Bool} {Q:Value->Shared->Prop} (S:St B L m g s) (hx:g x=some (nodeO dx sl n t np t')) (hd:g dx=some od) (h:∀ s',St B L m g s'->Q (.int np t') s'):wpAny (model PG w) A (getAttr (.ref x) sNp ex) Q E s:=
 s_get S hx hd (i:=1) rfl (by kernel_rfl) (by kernel_rfl) (by rfl) (by kernel_rfl) (by kernel_rfl) (by kernel_rfl) rfl h
theorem n_getSucc {x dx sl:Addr} {od:Obj} {n:Str} {t t':Tok} {np:Int} {ex:Bool} {Q:Value->Shared->Prop} (S:St B L m g s) (hx:g x=some (nodeO dx sl n t np t')) (hd:g dx=some od) (h:∀ s',St B L m g s'->Q (.ref sl) s'):wpAny (model PG w) A (getAttr (.ref x) sSucc ex) Q E s:=
 s_get S hx hd (i:=2) rfl (by kernel_rfl) (by kernel_rfl) (by rfl) (by kernel_rfl) (by kernel_rfl) (by kernel_rfl) rfl h
theorem sp_ninit {x dx:Addr} {od:Obj} {n:Str} {t:Tok} (K:Kp B g s) (hr:Rm A 2) (hh:A.handled=none) (hx:g x=some (ins 40 dx #[])) (hd:g dx=some od) (hne:dx≠x) :
  codeAny (model PG w) A (.call (.ref 36) ⟨[.ref x,.str n t],[]⟩) (λr s'=>Ex4 λl o t' g'=>And5 (r=.ok (.ret .none)) (Kp B g' s') (OL [] o) (g l=none) (g'=put (put g l o) x (nodeO dx l n t 0 t'))) s:=by
 refine call_fnA (binds:=[(Str.ofString "self",.ref x),(Str.ofString "node",.str n t)]) K hr hh (by rfl) (by kernel_rfl) (BindsTo.of_eq rfl) (by rfl) (λA L s E hr hh S=>?_);intro _ _;refine in_envX ?_;intro _;walk_at "J";refine n_set0 S hx hd λs S=>?_;walk_at "J";refine n_set1 ‹_› (put_self ..) ((put_ne hne).trans hd) λs S=>?_;rw [put_put] at S;walk_at "J";refine n_list ‹_› λs l o ol nl _ _ S=>?_;have nlx:x≠l:=ne_none (put_self ..) nl;have nld:g l=none:=by rw [put_ne nlx.symm] at nl;exact nl
 rw [put_comm nlx] at S;walk_at "J";refine n_set2 ‹_› (put_self ..) ((put_ne hne).trans (put_of nld hd)) λs S=>?_;rw [put_put] at S;walk_at "J";exact ⟨l,o,_,_,rfl,S.kp,ol,nld,rfl⟩
theorem valueAt_nodes {nodes:List Node} {n:Str}:(∃ nd∈nodes,nd.n=n∧valueAt (nodes.map λnd=>(nd.n,Value.ref nd.x)) n=some (.ref nd.x))∨(n∉nodes.map (·.n)∧valueAt (nodes.map λnd=>(nd.n,Value.ref nd.x)) n=none):=by
 induction nodes with
 |nil=>exact .inr ⟨by simp,rfl⟩
 |cons nd r ih=>
  unfold valueAt at ih ⊢;rw [List.map_cons,List.find?_cons]
  by_cases h:nd.n=n
  ·left
   exact ⟨nd,.head _,h,by simp [h]⟩
  ·simp only [h,decide_false];rcases ih with ⟨nd',h1,h2,h3⟩|⟨h1,h2⟩
   ·exact .inl ⟨nd',.tail _ h1,h2,h3⟩
   ·refine .inr ⟨?_,h2⟩;rw [List.map_cons,List.mem_cons,not_or];exact ⟨λe=>h e.symm,h1⟩
end
section
variable {w:World} {B:Bs w} {A:Around} {L:Addr} {m m':Str->Option Value} {F g g':PH} {s:Shared} {env:Env} {E:Value->Shared->Prop} {pl:Sem Bool}
theorem a_sub {o i:Expr} {pos:Pos} {v:Value} {Q:Unit->Shared->Prop}
  (h:wpAny (model PG w) A (eval o env) (λov s₁=>wpAny (model PG w) A (eval i env) (λiv s₂=>wpAny (model PG w) A (setItem ov iv v) Q E s₂) E s₁) E s):wpAny (model PG w) A (assign (.Subscript o i pos) env v) Q E s:=by
 rw [assign_Subscript];refine wpAny_bind (wpAny_holding (wpAny_mono h (λov s₁ h₁=>?_) λ_ _ e=>e));refine wpAny_bind (wpAny_holding (wpAny_mono h₁ (λiv s₂ h₂=>?_) λ_ _ e=>e));refine wpAny_bind (wpAny_standAt (wpAny_bind (wpAny_holding (wpAny_mono h₂ (λ_ s₃ h₃=>?_) λ_ _ e=>e))));exact wpAny_release h₃
theorem x_assign2 {t₁ t₂ value:Expr} {pos:Pos} {rest:List Stmt} {Q:Flow->Shared->Prop}
  (h:wpAny (model PG w) A (eval value env) (λv s₁=>wpAny (model PG w) A (assign t₁ env v) (λ_ s₂=>wpAny (model PG w) A (assign t₂ env v) (λ_ s₃=>wpAny (model PG w) A (execs rest env) Q E s₃) E s₂) E s₁) E s)
  (he:(assignEach [t₁,t₂] env).map (·.2)=[assign t₁ env,assign t₂ env]:=by with_unfolding_all rfl) (hw:swappedStores [t₁,t₂] value env=pure none:=by with_unfolding_all rfl):wpAny (model PG w) A (execs (.Assign [t₁,t₂] value pos :: rest) env) Q E s:=
 wpAny_execs_cons (wpAny_Assign_two h he hw)
theorem x_augAttr {o value:Expr} {attr:Str} {tpos pos:Pos} {op:Operator} {rest:List Stmt} {Q:Flow->Shared->Prop}
  (h:wpAny (model PG w) A (eval o env) (λov s₁=>wpAny (model PG w) A (getAttr ov attr true) (λold s₂=>
     wpAny (model PG w) A (eval value env) (λv s₃=>wpAny (model PG w) A (inplaceOp op old v) (λnew s₄=>
      wpAny (model PG w) A (setAttr ov attr new) (λ_ s₅=>wpAny (model PG w) A (execs rest env) Q E s₅) E s₄) E s₃) E s₂) E s₁) E s) :
  wpAny (model PG w) A (execs (.AugAssign (.Attribute o attr tpos) op value pos :: rest) env) Q E s:=wpAny_execs_cons (wpAny_AugAssign_AttributeAny h)
theorem x_continue {pos:Pos} {rest:List Stmt} {Q:Flow->Shared->Prop} (h:Q .cont s):wpAny (model PG w) A (execs (.Continue pos :: rest) env) Q E s:=wpAny_execs_cons (wpAny_Continue h)
theorem x_break {pos:Pos} {rest:List Stmt} {Q:Flow->Shared->Prop} (h:Q .brk s):wpAny (model PG w) A (execs (.Break pos :: rest) env) Q E s:=wpAny_execs_cons (wpAny_Break h)
theorem o_isNone {v:Value} {Q:Value->Shared->Prop} (h:Q (.bool (v == .none)) s) (hp:plainIs v .none=true:=by rfl):wpAny (model PG w) A (compareOp .Is v .none) Q E s:=wpAny_is_plain hp h
theorem o_isNotNone {v:Value} {Q:Value->Shared->Prop} (h:Q (.bool (!(v == .none))) s) (hp:plainIs v .none=true:=by rfl):wpAny (model PG w) A (compareOp .IsNot v .none) Q E s:=wpAny_isNot_plain hp h
theorem o_iaddI {Q:Value->Shared->Prop} {a b:Int} {t u:Tok} (S:St B L m g s) (h:∀ s' tk,St B L m g s'->Q (.int (a + b) tk) s'):wpAny (model PG w) A (inplaceOp .Add (.int a t) (.int b u)) Q E s:=iadd_int (h _ _ (S.toks _))
theorem o_isubI {Q:Value->Shared->Prop} {a b:Int} {t u:Tok} (S:St B L m g s) (h:∀ s' tk,St B L m g s'->Q (.int (a - b) tk) s'):wpAny (model PG w) A (inplaceOp .Sub (.int a t) (.int b u)) Q E s:=isub_int (h _ _ (S.toks _))
theorem Srt.get {x sdx d:Addr} {nodes:List Node} {rv:Value} {po fi:Int} (T:Srt w F g x sdx d nodes rv po fi) {name:Str} {v:Value->Prop} {ex:Bool} {Q:Value->Shared->Prop} (S:St B L m g s)
  (hv:∀ mA:Str->Option Value,∀ tp tf:Tok,mA sN2i=some (.ref d)->mA sRdy=some rv->mA sPo=some (.int po tp)->mA sFi=some (.int fi tf)->∃ u,And3 (mA name=some u) (v u) (handedIn u=true)) (hk:name∈ksS) (h:∀ s' u,v u->St B L m g s'->Q u s') :
  wpAny (model PG w) A (getAttr (.ref x) name ex) Q E s:=by
 refine gq λ_ z1=>?_;obtain ⟨od,mA,tp,tf,h1,h2,h3,h4,h5,h6⟩:=T.sd_;obtain ⟨u,h7,h8,h9⟩:=hv mA tp tf h3 h4 h5 h6;refine z1 ?_
 have key:plainGet (HF w) 137 name=true∧findIn (HF w) (.ref 137) name=some none:=by
  simp only [ksS,List.mem_cons,List.not_mem_nil,or_false] at hk;rcases hk with rfl|rfl|rfl|rfl <;> exact ⟨by kernel_rfl,by kernel_rfl⟩
 exact i_get S T.x_ h1 h2 h7 key.1 (by kernel_rfl) key.2 (by kernel_rfl) h9 λs' S'=>h _ _ h8 S'
theorem Srt.getN {x sdx d:Addr} {nodes:List Node} {rv:Value} {po fi:Int} (T:Srt w F g x sdx d nodes rv po fi) {ex:Bool} {Q:Value->Shared->Prop} (S:St B L m g s) (h:∀ s',St B L m g s'->Q (.ref d) s'):wpAny (model PG w) A (getAttr (.ref x) sN2i ex) Q E s:=
 T.get S (v:=λu=>u=.ref d) (λmA tp tf h1 _ _ _=>⟨_,h1,rfl,rfl⟩) (by decide) λs' u hu S'=>by subst hu;exact h _ S'
theorem Srt.getR {x sdx d:Addr} {nodes:List Node} {rv:Value} {po fi:Int} (T:Srt w F g x sdx d nodes rv po fi) (hr:handedIn rv=true) {ex:Bool} {Q:Value->Shared->Prop} (S:St B L m g s) (h:∀ s',St B L m g s'->Q rv s'):wpAny (model PG w) A (getAttr (.ref x) sRdy ex) Q E s:=
 T.get S (v:=λu=>u=rv) (λmA tp tf _ h1 _ _=>⟨_,h1,rfl,hr⟩) (by decide) λs' u hu S'=>by subst hu;exact h _ S'
theorem Srt.getP {x sdx d:Addr} {nodes:List Node} {rv:Value} {po fi:Int} (T:Srt w F g x sdx d nodes rv po fi) {ex:Bool} {Q:Value->Shared->Prop} (S:St B L m g s) (h:∀ s' t,St B L m g s'->Q (.int po t) s'):wpAny (model PG w) A (getAttr (.ref x) sPo ex) Q E s:=
 T.get S (v:=λu=>∃ t,u=.int po t) (λmA tp tf _ _ h1 _=>⟨_,h1,⟨_,rfl⟩,rfl⟩) (by decide) λs' u hu S'=>by obtain ⟨t,rfl⟩:=hu;exact h _ _ S'
theorem Srt.getF {x sdx d:Addr} {nodes:List Node} {rv:Value} {po fi:Int} (T:Srt w F g x sdx d nodes rv po fi) {ex:Bool} {Q:Value->Shared->Prop} (S:St B L m g s) (h:∀ s' t,St B L m g s'->Q (.int fi t) s'):wpAny (model PG w) A (getAttr (.ref x) sFi ex) Q E s:=
 T.get S (v:=λu=>∃ t,u=.int fi t) (λmA tp tf _ _ _ h1=>⟨_,h1,⟨_,rfl⟩,rfl⟩) (by decide) λs' u hu S'=>by obtain ⟨t,rfl⟩:=hu;exact h _ _ S'
end
noncomputable abbrev PN:=Str×Int×List Str
noncomputable def Node.pn (nd:Node):PN:=(nd.n,nd.np,nd.succ)
noncomputable def getN (ps:List PN) (n:Str):List PN:=if n∈ps.map (·.1) then ps else ps ++ [(n,0,[])]
section
variable {w:World} {B:Bs w} {A:Around} {L:Addr} {m m':Str->Option Value} {F g g':PH} {s:Shared} {env:Env} {E:Value->Shared->Prop} {pl:Sem Bool} {x sdx d:Addr} {nodes:List Node} {rv:Value} {po fi:Int}
theorem NodeAt.ne {nd:Node} {l:Addr} (h:NodeAt g nd) (hl:g l=none):nd.x≠l∧nd.sl≠l:=by
 obtain ⟨od,osl,vs,t,t',h1,h2,h3,h4,h5⟩:=h;exact ⟨ne_none h1 hl,ne_none h3 hl⟩
theorem Srt.alloc (T:Srt w F g x sdx d nodes rv po fi) {l:Addr} {o:Obj} (hl:g l=none):Srt w (put F l o) (put g l o) x sdx d nodes rv po fi:=by
 have T':=T.subg (Sub.put (o:=o) hl);obtain ⟨od,mA,tp,tf,h1,h2⟩:=T.sd_;obtain ⟨o',h3,h4⟩:=T.d_;refine ⟨T'.x_,T'.sd_,T'.d_,T'.nd_,T.nx,T.nsl,T.sd_d,λb y e=>?_,(put_ne (ne_none T.x_ hl)).trans T.fx,(put_ne (ne_none h1 hl)).trans T.fs,(put_ne (ne_none h3 hl)).trans T.fd,λnd hn=>?_⟩
 ·by_cases hb:b=l
  ·subst hb;rw [put_self] at e ⊢;exact e
  ·rw [put_ne hb] at e ⊢;exact T.sub _ _ e
 ·obtain ⟨n1,n2⟩:=(T.nd_ nd hn).ne hl;exact ⟨(put_ne n1).trans (T.fn nd hn).1,(put_ne n2).trans (T.fn nd hn).2⟩
theorem Srt.weaken {F':PH} (T:Srt w F' g x sdx d nodes rv po fi) (k:Sub F F'):Srt w F g x sdx d nodes rv po fi:=
 ⟨T.x_,T.sd_,T.d_,T.nd_,T.nx,T.nsl,T.sd_d,λb o e=>T.sub _ _ (k _ _ e),none_sub T.fx k,none_sub T.fs k,none_sub T.fd k,λnd h=>⟨none_sub (T.fn nd h).1 k,none_sub (T.fn nd h).2 k⟩⟩
theorem Srt.nodeN (T:Srt w F g x sdx d nodes rv po fi):(nodes.map (·.n)).Nodup:=by
 obtain ⟨o,_,_,es,ep,_,_,_,h⟩:=T.d_;rw [List.map_map] at h;exact h
theorem Srt.inj (T:Srt w F g x sdx d nodes rv po fi) {a b:Node} (ha:a∈nodes) (hb:b∈nodes):(a.n=b.n->a=b)∧(a.x=b.x->a=b)∧(a.sl=b.sl->a=b):=by
 have key:∀ {β:Type} (f:Node->β),(nodes.map f).Nodup->f a=f b->a=b:=λf hn e=>by
  obtain ⟨i,hi,rfl⟩:=List.getElem_of_mem ha;obtain ⟨j,hj,rfl⟩:=List.getElem_of_mem hb;have hp:=List.pairwise_iff_getElem.mp (List.nodup_iff_pairwise_ne.mp hn);rcases Nat.lt_trichotomy i j with h|h|h
  ·exact absurd e (by have:=hp i j (by simpa using hi) (by simpa using hj) h;rw [List.getElem_map,List.getElem_map] at this;exact this)
  ·subst h;rfl
  ·exact absurd e.symm (by have:=hp j i (by simpa using hj) (by simpa using hi) h;rw [List.getElem_map,List.getElem_map] at this;exact this)
 exact ⟨key _ T.nodeN,key _ T.nx,key _ T.nsl⟩
theorem put_some {a b:Addr} {o o':Obj} (h:g b=some o):∃ y,put g a o' b=some y:=by
 by_cases q:b=a
 ·subst q;exact ⟨_,put_self ..⟩
 ·exact ⟨o,(put_ne q).trans h⟩
theorem NodeAt.put {nd:Node} {a:Addr} {o':Obj} (h:NodeAt g nd) (n1:nd.x≠a) (n2:nd.sl≠a):NodeAt (put g a o') nd:=by
 obtain ⟨od,osl,vs,t,t',h1,h2,h3,h4,h5⟩:=h;obtain ⟨y,hy⟩:=put_some (a:=a) (o':=o') h2;exact ⟨y,osl,vs,t,t',(put_ne n1).trans h1,hy,(put_ne n2).trans h3,h4,h5⟩
theorem Srt.upd (T:Srt w F g x sdx d nodes rv po fi) {nodes':List Node} {a:Addr} {o':Obj} (h1:x≠a) (h2:sdx≠a) (h3:d≠a) (hF:F a=none) (hN:∀ nd∈nodes',NodeAt (put g a o') nd)
  (e1:nodes'.map (·.n)=nodes.map (·.n)) (e2:nodes'.map (·.x)=nodes.map (·.x)) (e3:nodes'.map (·.sl)=nodes.map (·.sl)):Srt w F (put g a o') x sdx d nodes' rv po fi:=by
 obtain ⟨od,mA,tp,tf,k1,k2⟩:=T.sd_;obtain ⟨o,k3,k4⟩:=T.d_;refine ⟨(put_ne h1).trans T.x_,⟨od,mA,tp,tf,(put_ne h2).trans k1,k2⟩,⟨o,(put_ne h3).trans k3,?_⟩,hN,by rw [e2];exact T.nx,by rw [e3];exact T.nsl,T.sd_d,λb y e=>?_,T.fx,T.fs,T.fd,λnd hm=>⟨?_,?_⟩⟩
 ·have:∀ l:List Node,l.map (λnd=>(nd.n,Value.ref nd.x))=(l.map (·.n)).zipWith (λn x=>(n,Value.ref x)) (l.map (·.x)):=λl=>by
   induction l with
   |nil=>rfl
   |cons y r ih=>simp only [List.map_cons,List.zipWith_cons_cons,ih]
  rw [this,e1,e2,<-this];exact k4
 ·rw [put_ne (by rintro rfl;rw [hF] at e;cases e)];exact T.sub _ _ e
 ·have:nd.x∈nodes.map (·.x):=by rw [<-e2];exact List.mem_map.mpr ⟨nd,hm,rfl⟩
  obtain ⟨nd',h,e⟩:=List.mem_map.mp this;rw [<-e];exact (T.fn nd' h).1
 ·have:nd.sl∈nodes.map (·.sl):=by rw [<-e3];exact List.mem_map.mpr ⟨nd,hm,rfl⟩
  obtain ⟨nd',h,e⟩:=List.mem_map.mp this;rw [<-e];exact (T.fn nd' h).2
noncomputable def mapN (nodes:List Node) (n:Str) (f:Node->Node):List Node:=nodes.map λm=>if m.n=n then f m else m
theorem mapN_map {β:Type} {n:Str} {f:Node->Node} {p:Node->β} (h:∀ m,p (f m)=p m):(mapN nodes n f).map p=nodes.map p:=by
 unfold mapN;rw [List.map_map];exact List.map_congr_left λm _=>by simp only [Function.comp];split <;> simp [h]
theorem Srt.ne (T:Srt w F g x sdx d nodes rv po fi) {nd:Node} (hm:nd∈nodes):(x≠nd.x∧sdx≠nd.x∧d≠nd.x)∧x≠nd.sl∧sdx≠nd.sl∧d≠nd.sl:=by
 obtain ⟨od,mA,tp,tf,h1,h2⟩:=T.sd_;obtain ⟨o',h3,h4⟩:=T.d_;obtain ⟨odn,osl,vs,u,u',g1,g2,g3,g4,g5⟩:=T.nd_ nd hm;refine ⟨⟨?_,?_,?_⟩,?_,?_,?_⟩ <;> intro e
 ·rw [<-e,T.x_] at g1;cases g1
 ·rw [<-e,h1] at g1;cases g1;exact absurd h2.1.cls (by intro e;cases e)
 ·rw [<-e,h3] at g1;cases g1;exact absurd h4.cls (by intro e;cases e)
 ·rw [<-e,T.x_] at g3;cases g3;exact absurd g4.cls (by intro e;cases e)
 ·rw [<-e,h1] at g3;cases g3;exact absurd (g4.cls.symm.trans h2.1.cls) (by intro e;exact absurd (Value.type.inj e) (by decide))
 ·rw [<-e,h3] at g3;cases g3;exact absurd (g4.cls.symm.trans h4.cls) (by intro e;exact absurd (Value.type.inj e) (by decide))
theorem Srt.x_sl (T:Srt w F g x sdx d nodes rv po fi) {a b:Node} (ha:a∈nodes) (hb:b∈nodes):a.x≠b.sl:=by
 obtain ⟨odn,osl,vs,u,u',g1,g2,g3,g4,g5⟩:=T.nd_ a ha;obtain ⟨odn',osl',vs',v,v',k1,k2,k3,k4,k5⟩:=T.nd_ b hb;intro e;rw [e,k3] at g1;cases g1;exact absurd k4.cls (by intro e;cases e)
theorem Srt.setX (T:Srt w F g x sdx d nodes rv po fi) {nd:Node} (hm:nd∈nodes) {np:Int} {t t':Tok}:Srt w F (put g nd.x (nodeO nd.dx nd.sl nd.n t np t')) x sdx d (mapN nodes nd.n λm=>{ m with np:=np }) rv po fi:=by
 obtain ⟨⟨n1,n2,n3⟩,_⟩:=T.ne hm;refine T.upd n1 n2 n3 (T.fn nd hm).1 (λm' hm'=>?_) (mapN_map λ_=>rfl) (mapN_map λ_=>rfl) (mapN_map λ_=>rfl);obtain ⟨m,hmm,rfl⟩:=List.mem_map.mp hm'
 by_cases q:m.n=nd.n
 ·have:=(T.inj hmm hm).1 q;subst this;rw [if_pos rfl];obtain ⟨odn,osl,vs,u,u',g1,g2,g3,g4,g5⟩:=T.nd_ m hm;obtain ⟨y,hy⟩:=put_some (a:=m.x) (o':=nodeO m.dx m.sl m.n t np t') g2;exact ⟨y,osl,vs,t,t',put_self ..,hy,(put_ne (T.x_sl hm hm).symm).trans g3,g4,g5⟩
 ·rw [if_neg q];exact (T.nd_ m hmm).put (λe=>q (by rw [(T.inj hmm hm).2.1 e])) (T.x_sl hm hmm).symm
theorem Srt.setL (T:Srt w F g x sdx d nodes rv po fi) {nd:Node} (hm:nd∈nodes) {o:Obj} {vs:List Value} {ss:List Str} (ol:OL vs o) (hs:StrsAre vs ss):Srt w F (put g nd.sl o) x sdx d (mapN nodes nd.n λm=>{ m with succ:=ss }) rv po fi:=by
 obtain ⟨_,n1,n2,n3⟩:=T.ne hm;refine T.upd n1 n2 n3 (T.fn nd hm).2 (λm' hm'=>?_) (mapN_map λ_=>rfl) (mapN_map λ_=>rfl) (mapN_map λ_=>rfl);obtain ⟨m,hmm,rfl⟩:=List.mem_map.mp hm'
 by_cases q:m.n=nd.n
 ·have:=(T.inj hmm hm).1 q;subst this;rw [if_pos rfl];obtain ⟨odn,osl,vs',u,u',g1,g2,g3,g4,g5⟩:=T.nd_ m hm;obtain ⟨y,hy⟩:=put_some (a:=m.sl) (o':=o) g2;exact ⟨y,o,vs,u,u',(put_ne (T.x_sl hm hm)).trans g1,hy,put_self ..,ol,hs⟩
 ·rw [if_neg q];exact (T.nd_ m hmm).put (T.x_sl hmm hm) (λe=>q (by rw [(T.inj hmm hm).2.2 e]))
theorem Srt.more (T:Srt w F g x sdx d nodes rv po fi) {nd:Node} {o:Obj} (hn:NodeAt g nd) (h1:nd.x∉nodes.map (·.x)) (h2:nd.sl∉nodes.map (·.sl)) (h3:F nd.x=none) (h4:F nd.sl=none) (od:OD w ((nodes ++ [nd]).map λnd=>(nd.n,.ref nd.x)) o) :
  Srt w F (put g d o) x sdx d (nodes ++ [nd]) rv po fi:=by
 obtain ⟨od',mA,tp,tf,k1,k2⟩:=T.sd_;obtain ⟨o',k3,k4⟩:=T.d_;have xd:x≠d:=by rintro rfl;rw [T.x_] at k3;cases k3;exact absurd k4.cls (by intro e;cases e)
 have nn:∀ m∈nodes ++ [nd],NodeAt (put g d o) m:=λm hm=>by
  have hm':NodeAt g m:=by
   rcases List.mem_append.mp hm with h|h
   ·exact T.nd_ m h
   ·cases List.mem_singleton.mp h;exact hn
  obtain ⟨odn,osl,vs,u,u',g1,g2,g3,g4,g5⟩:=id hm';refine hm'.put ?_ ?_
  ·rintro e;rw [e,k3] at g1;cases g1;exact absurd k4.cls (by intro e;cases e)
  ·rintro e;rw [e,k3] at g3;cases g3;exact absurd (g4.cls.symm.trans k4.cls) (by intro e;exact absurd (Value.type.inj e) (by decide))
 refine ⟨(put_ne xd).trans T.x_,⟨od',mA,tp,tf,(put_ne T.sd_d).trans k1,k2⟩,⟨o,put_self ..,od⟩,nn,?_,?_,T.sd_d,λb y e=>?_,T.fx,T.fs,T.fd,λm hm=>?_⟩
 ·rw [List.map_append,List.nodup_append];exact ⟨T.nx,by simp,λa ha b hb=>by simp at hb;subst hb;rintro rfl;exact h1 ha⟩
 ·rw [List.map_append,List.nodup_append];exact ⟨T.nsl,by simp,λa ha b hb=>by simp at hb;subst hb;rintro rfl;exact h2 ha⟩
 ·rw [put_ne (by rintro rfl;rw [T.fd] at e;cases e)];exact T.sub _ _ e
 ·rcases List.mem_append.mp hm with h|h
  ·exact T.fn m h
  ·cases List.mem_singleton.mp h;exact ⟨h3,h4⟩
theorem Srt.attr (T:Srt w F g x sdx d nodes rv po fi) {od:Obj} {mA:Str->Option Value} {tp tf:Tok} {rv':Value} {po' fi':Int} (h:OA ksS mA od) (h1:mA sN2i=some (.ref d)) (h2:mA sRdy=some rv') (h3:mA sPo=some (.int po' tp)) (h4:mA sFi=some (.int fi' tf)) :
  Srt w F (put g sdx od) x sdx d nodes rv' po' fi':=by
 obtain ⟨od',mA',tp',tf',k1,k2⟩:=T.sd_;obtain ⟨o',k3,k4⟩:=T.d_;have xd:x≠sdx:=by rintro rfl;rw [T.x_] at k1;cases k1;exact absurd k2.1.cls (by intro e;cases e)
 refine ⟨(put_ne xd).trans T.x_,⟨od,mA,tp,tf,put_self ..,h,h1,h2,h3,h4⟩,⟨o',(put_ne T.sd_d.symm).trans k3,k4⟩,λm hm=>?_,T.nx,T.nsl,T.sd_d,λb y e=>?_,T.fx,T.fs,T.fd,T.fn⟩
 ·obtain ⟨⟨_,a,_⟩,_,b,_⟩:=T.ne hm;exact (T.nd_ m hm).put a.symm b.symm
 ·rw [put_ne (by rintro rfl;rw [T.fs] at e;cases e)];exact T.sub _ _ e
end
section
variable {w:World} {B:Bs w} {A:Around} {L:Addr} {m m':Str->Option Value} {F₀ g g':PH} {s:Shared} {env:Env} {E:Value->Shared->Prop} {pl:Sem Bool} {x sdx d:Addr} {nodes:List Node} {rv:Value} {po fi:Int}
theorem pn_names (nodes:List Node):(nodes.map Node.pn).map (·.1)=nodes.map (·.n):=by rw [List.map_map];rfl
theorem stored_new {kvs:List (Str×Value)} {n:Str} {v:Value} (h:n∉kvs.map (·.1)):stored kvs n v=kvs ++ [(n,v)]:=by
 unfold stored;rw [if_neg];simp only [Bool.not_eq_true,List.any_eq_false,decide_eq_true_eq];intro kv hkv e;exact h (List.mem_map.mpr ⟨kv,hkv,e⟩)
theorem Srt.meth (T:Srt w F₀ g x sdx d nodes rv po fi) (S:St B L m g s) {name:Str} {f:Addr} {Q:Value×List Value->Shared->Prop} (hk:∀ mA:Str->Option Value,True)
  (hn:name∉ksS) (hg:plainGet (HF w) 137 name=true) (hf:findIn (HF w) (.ref 137) name=some (some (.ref f))) (ht:isFn (HF w) (.ref f)=true) (h:Q (.ref f,[.ref x]) s):wpAny (model PG w) A (getMethod (.ref x) name pl) Q E s:=by
 refine gq λ_ z1=>?_;obtain ⟨od,mA,tp,tf,h1,h2,_⟩:=T.sd_;refine z1 ?_;refine gm_inst S T.x_ h1 h2 ?_ hg hf ht h;obtain ⟨es,k,rfl,hs,hf'⟩:=h2;have:=hf' name;rw [getL_of_strs _ hs] at this;have:=Option.some.inj this;rw [<-this];cases q:es.find? (·.key.isStr name) with
 |none=>rfl
 |some e=>
  have he:=List.find?_some q;have hm:=List.mem_of_find?_eq_some q;have:kStr e.key∈ksS.map some:=by rw [<-hs];exact List.mem_map.mpr ⟨e,hm,rfl⟩
  obtain ⟨k',hk',hkk⟩:=List.mem_map.mp this;rw [isStr_kStr hkk.symm] at he;exact absurd (by rw [<-beq_iff_eq.mp he];exact hk') hn
theorem sp_getNode {n:Str} {t:Tok} (K:Kp B g s) (hr:Rm A 4) (hh:A.handled=none) (T:Srt w F₀ g x sdx d nodes rv po fi) (hz:nodes.length≤900) :
  codeAny (model PG w) A (.call (.ref 80) ⟨[.ref x,.str n t],[]⟩) (λr s'=>Ex3 λnd nodes' g'=>And6 (r=.ok (.ret (.ref nd.x))) (Kp B g' s') (nd∈nodes') (nd.n=n) (Srt w F₀ g' x sdx d nodes' rv po fi) (nodes'.map Node.pn=getN (nodes.map Node.pn) n)) s:=by
 refine call_fnA (binds:=[(Str.ofString "self",.ref x),(Str.ofString "node",.str n t)]) K hr hh (by rfl) (by kernel_rfl) (BindsTo.of_eq rfl) (by rfl) (λA L s E hr hh S=>?_);intro _ _;refine in_envX ?_;intro _;have sz:=sizeLine_eq;obtain ⟨oD,hD,odD⟩:=T.d_;walk_at "J";refine r_meth F.plainAttrs_dict F.slot_dict_get F.type_dict_get ?_;walk_at "J";refine T.getN S λs S=>?_;refine ⟨(odD.dictOf (S.sub hD)).mapOf.typeIs,λa e=>by cases e;exact ⟨_,S.sub hD,odD.1.2.1⟩,?_⟩;walk_at "J";refine o_get1 ‹_› (sysNe S hD) (odD.dictOf (St.sub ‹_› hD)) λs S=>?_;rcases valueAt_nodes (nodes:=nodes) (n:=n) with ⟨nd,hnd,hnn,hv⟩|⟨hnn,hv⟩
 ·rw [hv];walk_at "J";refine o_isNone ?_;walk_at "J";refine x_iteF (by rfl) ?_;walk_at "J";refine ⟨nd,nodes,g,rfl,St.kp ‹_›,hnd,hnn,T,?_⟩;unfold getN;rw [if_pos];rw [pn_names];exact List.mem_map.mpr ⟨nd,hnd,hnn⟩
 ·rw [hv];walk_at "J";refine o_isNone ?_;walk_at "J";refine x_iteT (by rfl) ?_;walk_at "J";refine c_make (C:=40) ‹_› (by kernel_rfl) (by rfl) (by kernel_rfl) λx' dx s S n1 n2 n3=>?_;refine S.call λr K₁ back=>?_;have hx':=put_self (g:=put g dx emptyDict) (a:=x') (o:=ins 40 dx #[]);have hd':put (put g dx emptyDict) x' (ins 40 dx #[]) dx=some emptyDict:=(put_ne n3).trans (put_self ..);have sub₁:Sub g (put (put g dx emptyDict) x' (ins 40 dx #[])):=(Sub.put n1).trans (Sub.put ((put_ne n3.symm).trans n2));refine codeAny_mono (sp_ninit (n:=n) (t:=t) K₁ (Rm.make hr |>.le (by decide)) hh hx' hd' n3) λr s' hR=>?_
  obtain ⟨l,o,t',g₂,rfl,K',ol,nl,eg⟩:=hR;have S:=back _ _ K';refine ⟨rfl,?_⟩;have nlg:=none_sub nl sub₁;have lx:x'≠l:=ne_none hx' nl
  have sub₂:Sub g g₂:=λb o e=>by
   rw [eg,put_ne (ne_none e n2),put_ne (ne_none e nlg)];exact sub₁ _ _ e
  have T₂:=T.subg sub₂;have hl:g₂ l=some o:=by rw [eg,put_ne lx.symm];exact put_self ..
  have hxx:g₂ x'=some (nodeO dx l n t 0 t'):=by rw [eg];exact put_self ..
  have hdd:g₂ dx=some emptyDict:=by rw [eg,put_ne n3,put_of nl hd']
  have N:NodeAt g₂ ⟨n,x',dx,l,0,[]⟩:=⟨_,o,[],t,t',hxx,hdd,hl,ol,.nil⟩;clear eg;walk_at "J";refine T₂.getN ‹_› λs S=>?_;walk_at "J";have hnk:n∉(nodes.map λnd=>(nd.n,Value.ref nd.x)).map (·.1):=by rw [List.map_map];exact hnn
  refine o_setD ‹_› (sub₂ _ _ hD) odD (by rw [List.length_map];exact n_t ‹_› (by decide)) λs o' od' S=>?_;rw [stored_new hnk] at od'
  have T₃:Srt w F₀ (put g₂ d o') x sdx d (nodes ++ [⟨n,x',dx,l,0,[]⟩]) rv po fi:=by
   refine T₂.more N ?_ ?_ (none_sub n2 T.sub) (none_sub nlg T.sub) (by rw [List.map_append];exact od')
   ·intro h;refine gq λ_ z5=>?_;obtain ⟨nd,h1,h2⟩:=List.mem_map.mp h;obtain ⟨_,_,_,_,_,g1,_⟩:=T.nd_ nd h1;refine z5 ?_;rw [h2,n2] at g1;cases g1
   ·intro h;refine gq λ_ z6=>?_;obtain ⟨nd,h1,h2⟩:=List.mem_map.mp h;obtain ⟨_,_,_,_,_,_,_,g1,_⟩:=T.nd_ nd h1;refine z6 ?_;rw [h2,nlg] at g1;cases g1
  walk_at "J";refine ⟨_,_,_,rfl,St.kp ‹_›,List.mem_append_right _ (.head _),rfl,T₃,?_⟩;unfold getN;rw [if_neg (by rw [pn_names];exact hnn),List.map_append]
  rfl
end
noncomputable def mapP (ps:List PN) (n:Str) (f:PN->PN):List PN:=ps.map λp=>if p.1=n then f p else p
noncomputable def incP (k:Int) (p:PN):PN:=(p.1,p.2.1 + k,p.2.2)
noncomputable def setP (k:Int) (p:PN):PN:=(p.1,k,p.2.2)
noncomputable def sucP (a:Str) (p:PN):PN:=(p.1,p.2.1,p.2.2 ++ [a])
noncomputable def addP (ps:List PN) (a b:Str):List PN:=mapP (getN (mapP (getN ps a) a (incP 1)) b) b (sucP a)
theorem pn_mapN {nodes:List Node} {nd:Node} {f:Node->Node} {p:PN->PN} (h:∀ m∈nodes,m.n=nd.n->m=nd) (hf:(f nd).pn=p nd.pn):(mapN nodes nd.n f).map Node.pn=mapP (nodes.map Node.pn) nd.n p:=by
 unfold mapN mapP;rw [List.map_map,List.map_map];refine List.map_congr_left λm hm=>?_;simp only [Function.comp]
 by_cases q:m.n=nd.n
 ·have:=h m hm q;subst this;rw [if_pos rfl,hf];exact (if_pos rfl).symm
 ·rw [if_neg q];exact (if_neg q).symm
theorem len_getN (ps:List PN) (n:Str):(getN ps n).length≤ps.length + 1:=by unfold getN;split <;> simp
theorem len_mapP (ps:List PN) (n:Str) (f:PN->PN):(mapP ps n f).length=ps.length:=by unfold mapP;simp
theorem len_addP (ps:List PN) (a b:Str):(addP ps a b).length≤ps.length + 2:=by
 unfold addP;rw [len_mapP];have h1:=len_getN (mapP (getN ps a) a (incP 1)) b;rw [len_mapP] at h1;have h2:=len_getN ps a;exact om38 h1 h2
section
variable {w:World} {B:Bs w} {A:Around} {L:Addr} {m m':Str->Option Value} {F₀ g g':PH} {s:Shared} {env:Env} {E:Value->Shared->Prop} {pl:Sem Bool} {x sdx d:Addr} {nodes:List Node} {rv:Value} {po fi:Int}
theorem c_getNode {n:Str} {t:Tok} {Q:Value->Shared->Prop} (S:St B L m g s) (hr:Rm A 4) (hh:A.handled=none) (T:Srt w F₀ g x sdx d nodes rv po fi) (hz:nodes.length≤900)
  (h:∀ s' nd nodes' g',St B L m g' s'->nd∈nodes'->nd.n=n->Srt w F₀ g' x sdx d nodes' rv po fi->nodes'.map Node.pn=getN (nodes.map Node.pn) n->Q (.ref nd.x) s'):wpAny (model PG w) A (call (.ref 80) [.ref x,.str n t]) Q E s:=by
 refine S.call λr K back=>?_;refine r_defCall (codeAny_mono (sp_getNode K hr hh T hz) λr s' hR=>?_);obtain ⟨nd,nodes',g',rfl,K',hm,hn,T',e⟩:=hR;exact h _ _ _ _ (back _ _ K') hm hn T' e
theorem o_lenT {l:Addr} {vs:List Value} {Q:Value->Shared->Prop} (S:St B L m g s) (hl:s.heap.IsTuple l vs.toArray) (hz:vs.length≤1000) (h:∀ s' t,St B L m g s'->Q (.int vs.length t) s'):wpAny (model PG w) A (call (.builtin "len") [.ref l]) Q E s:=
 PyProof.Rows.len_tuple (items:=vs.toArray) hl (by rw [List.size_toArray];exact om39 hz) (by rw [List.size_toArray];exact h _ _ (S.toks _))
theorem OT.has {l:Addr} {vs:List Value} {o:Obj} (x:OT vs o) (h:Has B g l o) (K:Kp B g s):s.heap.IsTuple l vs.toArray:=by obtain ⟨a,n,e⟩:=x;exact ⟨o,h.get K,a,n,e⟩
theorem sp_add {a b:Str} {ta tb:Tok} (K:Kp B g s) (hr:Rm A 6) (hh:A.handled=none) (T:Srt w F₀ g x sdx d nodes .none po fi) (hz:nodes.length≤800) (hsz:∀ nd∈nodes,nd.succ.length≤1000) :
  codeAny (model PG w) A (.call (.ref 87) ⟨[.ref x,.str a ta,.str b tb],[]⟩) (λr s'=>Ex2 λnodes' g'=>And4 (r=.ok (.ret .none)) (Kp B g' s') (Srt w F₀ g' x sdx d nodes' .none po fi) (nodes'.map Node.pn=addP (nodes.map Node.pn) a b)) s:=by
 refine call_fnBA (λbinds g'=>Ex2 λl o=>And4 (g l=none) (g'=put g l o) (OT [.str b tb] o) (binds=[(Str.ofString "self",.ref x),(Str.ofString "node",.str a ta),(Str.ofString "predecessors",.ref l)])) K hr hh (by rfl) (by kernel_rfl) (λQ E hQ=>?_) λA binds g' L s' E' hr hh hP S=>?_
 ·show wpAny _ _ (newTuple [.str b tb] >>= λl=>pure [(Str.ofString "self",Value.ref x),(Str.ofString "node",Value.str a ta),(Str.ofString "predecessors",l)]) _ _ _;exact wpAny_bind (n_tupleKp K λs' l o' ot hl K'=>wpAny_pure (hQ _ _ _ K' ⟨l,o',hl,rfl,ot,rfl⟩ (by rfl)))
 intro _ _;refine in_envX ?_;intro _;obtain ⟨l,o,hl,rfl,ot,rfl⟩:=hP;have T₁:=T.alloc (l:=l) (o:=o) hl;have lF:F₀ l=none:=none_sub hl T.sub;walk_at "J";refine T₁.getR rfl S λs S=>?_;walk_at "J";refine o_isNotNone ?_;walk_at "J";refine x_iteF (by rfl) ?_;walk_at "J";refine MethodCall_ ?_;walk_at "J";refine T₁.meth ‹_› (λ_=>trivial) (by decide) (by kernel_rfl) (by rfl) (by kernel_rfl) ?_;walk_at "J";refine c_getNode ‹_› (hr.le (by decide)) hh T₁ (by exact n_t ‹_› (by decide)) λs nd nodes₁ g₁ S hm hn T₂ e₁=>?_;walk_at "J";obtain ⟨od,osl,vs,t,t',k1,k2,k3,k4,k5⟩:=T₂.nd_ nd hm;refine n_getNp ‹_› k1 k2 λs S=>?_;walk_at "J";have hl₁:g₁ l=some o:=T₂.sub _ _ (put_self ..);refine o_lenT ‹_› (ot.has (.inl hl₁) (St.kp ‹_›)) (by simp) λs tl S=>?_;walk_at "J";refine o_iaddI ‹_› λs tk S=>?_;refine n_setNp ‹_› k1 k2 λs S=>?_;have T₃:=T₂.setX hm (np:=nd.np + 1) (t:=t) (t':=tk);have e₃:=pn_mapN (nodes:=nodes₁) (nd:=nd) (f:=λm=>{ m with np:=nd.np + 1 }) (p:=incP 1) (λm hm' q=>(T₂.inj hm' hm).1 q) rfl;generalize hnn:(mapN nodes₁ nd.n λm=>{ m with np:=nd.np + 1 })=nodes₂ at *;rw [e₁,hn] at e₃;have z₁:=congrArg List.length e₃;rw [len_mapP,List.length_map] at z₁;have z₂:=len_getN (nodes.map Node.pn) a;rw [List.length_map] at z₂;walk_at "J"
 refine for_O (O_tuple ‹_› hh (.inl ((T₃.sub _ _ (put_self ..)))) ot) (λi m' g'=>∃ nodes',And4 (Srt w (put F₀ l o) g' x sdx d nodes' .none po fi) (m' (Str.ofString "self")=some (.ref x)) (m' (Str.ofString "node")=some (.str a ta)) (nodes'.map Node.pn=if i=0 then nodes₂.map Node.pn else addP (nodes.map Node.pn) a b)) (λ_ _ _=>False)
  ⟨nodes₂,T₃,by walk_at "J.m",by walk_at "J.m",rfl⟩ ?_ ?_ ?_ (λ_ _ _ _ h=>h.elim)
 ·rintro i m' g'' ⟨_,T',_⟩;have h1:=T₃.sub _ _ (put_self (g:=F₀) (a:=l) (o:=o));exact keep1 (h1) (T'.sub _ _ (put_self ..))
 ·rintro i v m' g' s₁ B' E₁ _ hi hv ⟨nodes',T',h1,h2,h3⟩ S₁;have:i=0:=by simp at hi;exact hi
  subst this;simp only [List.getElem?_cons_zero,Option.some.injEq] at hv;subst hv;rw [if_pos rfl] at h3;have z₃:=congrArg List.length h3;rw [List.length_map,List.length_map] at z₃;walk_at "J";refine MethodCall_ ?_;walk_at "J";refine T'.meth ‹_› (λ_=>trivial) (by decide) (by kernel_rfl) (by rfl) (by kernel_rfl) ?_;walk_at "J";refine c_getNode ‹_› (hr.le (by decide)) hh T' (by exact om40 hz z₁ z₂ z₃) λs nd' nodes₃ g₃ S hm' hn' T₄ e₄=>?_;walk_at "J";obtain ⟨od,osl,vs,t,t',k1,k2,k3,k4,k5⟩:=T₄.nd_ nd' hm';have lv:=k5.len_eq;refine r_meth F.plainAttrs_list F.slot_list_append F.type_list_append ?_;walk_at "J";refine n_getSucc ‹_› k1 k2 λs S=>?_;refine ⟨k4.typeIs (S.sub k3),λa e=>by cases e;exact ⟨_,S.sub k3,by obtain ⟨n,rfl⟩:=k4;rfl⟩,?_⟩;walk_at "J"
  have hsl:nd'.succ.length≤1000:=by
   have hmem:nd'.pn∈getN (nodes'.map Node.pn) b:=by rw [<-e₄];exact List.mem_map.mpr ⟨nd',hm',rfl⟩
   have hsm:∀ p∈nodes'.map Node.pn,p.2.2.length≤1000:=by
    rw [h3,e₃];intro p hp;unfold mapP at hp;obtain ⟨q,hq,rfl⟩:=List.mem_map.mp hp
    have:q.2.2.length≤1000:=by
     unfold getN at hq
     split at hq
     ·obtain ⟨nd,h1,rfl⟩:=List.mem_map.mp hq;exact hsz nd h1
     ·rcases List.mem_append.mp hq with hq|hq
      ·obtain ⟨nd,h1,rfl⟩:=List.mem_map.mp hq;exact hsz nd h1
      ·cases List.mem_singleton.mp hq;simp
    split
    ·exact this
    ·exact this
   unfold getN at hmem
   split at hmem
   ·exact hsm _ hmem
   ·rcases List.mem_append.mp hmem with hq|hq
    ·exact hsm _ hq
    ·have:nd'.succ=[]:=congrArg (·.2.2) (List.mem_singleton.mp hq);rw [this];simp
  have sz:=sizeLine_eq;refine o_append ‹_› k3 k4 (by exact n_t (n_e ‹_›) (n_t ‹_› (by decide))) λs o' ol' S=>?_;have T₅:=T₄.setL hm' ol' (ss:=nd'.succ ++ [a]) (k5.append' (.cons _ _ .nil));have e₅:=pn_mapN (nodes:=nodes₃) (nd:=nd') (f:=λm=>{ m with succ:=nd'.succ ++ [a] }) (p:=sucP a) (λm hm'' q=>(T₄.inj hm'' hm').1 q) rfl;walk_at "J";refine ⟨_,_,‹_›,_,T₅,by walk_at "J.m",by walk_at "J.m",?_⟩;rw [if_neg (by decide),e₅,e₄,h3,e₃,hn']
  rfl
 ·rintro m' g' s₁ E₁ ⟨nodes',T',h1,h2,h3⟩ S₁;rw [if_neg (by simp)] at h3;walk_at "J";exact ⟨_,_,rfl,St.kp ‹_›,T'.weaken (Sub.put lF),h3⟩
end
section
variable {w:World} {B:Bs w} {A:Around} {L:Addr} {m m':Str->Option Value} {F₀ g g':PH} {s:Shared} {env:Env} {E:Value->Shared->Prop} {pl:Sem Bool} {x sdx d rl:Addr} {nodes:List Node} {rv:Value} {po fi:Int} {rdy:List Str}
structure RdyAt (F g:PH) (nodes:List Node) (rl:Addr) (rdy:List Str):Prop where
 l:SL g rl rdy
 f:F rl=none
 sl:∀ nd∈nodes,nd.sl≠rl
theorem SL.ol {l:Addr} {ss:List Str} (h:SL g l ss):Ex2 λo vs=>And3 (g l=some o) (OL vs o) (StrsAre vs ss):=h
theorem Srt.putR (T:Srt w F₀ g x sdx d nodes rv po fi) (R:RdyAt F₀ g nodes rl rdy) {o':Obj} {vs:List Value} {rdy':List Str} (ol:OL vs o') (hs:StrsAre vs rdy'):Srt w F₀ (put g rl o') x sdx d nodes rv po fi∧RdyAt F₀ (put g rl o') nodes rl rdy':=by
 obtain ⟨od,mA,tp,tf,h1,h2⟩:=T.sd_;obtain ⟨oD,h3,h4⟩:=T.d_;obtain ⟨oR,vR,g3,g4,g5⟩:=R.l;refine ⟨T.upd ?_ ?_ ?_ R.f (λnd hm=>(T.nd_ nd hm).put ?_ (R.sl nd hm)) rfl rfl rfl,⟨⟨o',vs,put_self ..,ol,hs⟩,R.f,R.sl⟩⟩
 ·intro e;rw [<-e,T.x_] at g3;cases g3;exact absurd g4.cls (by intro e;cases e)
 ·intro e;rw [<-e,h1] at g3;cases g3;exact absurd (g4.cls.symm.trans h2.1.cls) (by intro e;exact absurd (Value.type.inj e) (by decide))
 ·intro e;rw [<-e,h3] at g3;cases g3;exact absurd (g4.cls.symm.trans h4.cls) (by intro e;exact absurd (Value.type.inj e) (by decide))
 ·intro e;obtain ⟨_,_,_,_,_,k1,_⟩:=T.nd_ nd hm;rw [e,g3] at k1;cases k1;exact absurd g4.cls (by intro e;cases e)
theorem RdyAt.setX (R:RdyAt F₀ g nodes rl rdy) (T:Srt w F₀ g x sdx d nodes rv po fi) {nd:Node} (hm:nd∈nodes) {o':Obj} {f:Node->Node} (hf:∀ m,(f m).sl=m.sl) {n:Str}:RdyAt F₀ (put g nd.x o') (mapN nodes n f) rl rdy:=by
 obtain ⟨oR,vR,g3,g4,g5⟩:=R.l;refine ⟨⟨oR,vR,(put_ne ?_).trans g3,g4,g5⟩,R.f,λnd' hm'=>?_⟩
 ·intro e;obtain ⟨_,_,_,_,_,k1,_⟩:=T.nd_ nd hm;rw [<-e,g3] at k1;cases k1;exact absurd g4.cls (by intro e;cases e)
 ·obtain ⟨m,h1,rfl⟩:=List.mem_map.mp hm';have:=R.sl m h1
  split
  ·rw [hf];exact this
  ·exact this
theorem RdyAt.attr (R:RdyAt F₀ g nodes rl rdy) (T:Srt w F₀ g x sdx d nodes rv po fi) {o':Obj}:RdyAt F₀ (put g sdx o') nodes rl rdy:=by
 obtain ⟨oR,vR,g3,g4,g5⟩:=R.l;refine ⟨⟨oR,vR,(put_ne ?_).trans g3,g4,g5⟩,R.f,R.sl⟩;obtain ⟨od,mA,tp,tf,h1,h2⟩:=T.sd_;intro e;rw [e,h1] at g3;cases g3;exact absurd (g4.cls.symm.trans h2.1.cls) (by intro e;exact absurd (Value.type.inj e) (by decide))
theorem RdyAt.alloc (R:RdyAt F₀ g nodes rl rdy) {l:Addr} {o:Obj} (hl:g l=none):RdyAt (put F₀ l o) (put g l o) nodes rl rdy:=by
 obtain ⟨oR,vR,g3,g4,g5⟩:=R.l;exact ⟨⟨oR,vR,put_of hl g3,g4,g5⟩,(put_ne (ne_none g3 hl)).trans R.f,R.sl⟩
theorem RdyAt.weaken {F':PH} (R:RdyAt F' g nodes rl rdy) (k:Sub F₀ F'):RdyAt F₀ g nodes rl rdy:=⟨R.l,none_sub R.f k,R.sl⟩
theorem RdyAt.sub (R:RdyAt F₀ g nodes rl rdy) (k:Sub g g'):RdyAt F₀ g' nodes rl rdy:=⟨R.l.sub k,R.f,R.sl⟩
theorem Srt.setA (T:Srt w F₀ g x sdx d nodes rv po fi) (S:St B L m g s) {name:Str} {v:Value} {Q:Unit->Shared->Prop} (hk:name∈ksS)
  (h:∀ s' od' mA tp tf,OA ksS (up mA name v) od'->mA sN2i=some (.ref d)->mA sRdy=some rv->mA sPo=some (.int po tp)->mA sFi=some (.int fi tf)->St B L m (put g sdx od') s'->Q () s'):wpAny (model PG w) A (setAttr (.ref x) name v) Q E s:=by
 obtain ⟨od,mA,tp,tf,h1,h2,h3,h4,h5,h6⟩:=T.sd_
 have key:takerIn (HF w) 137 name=some none∧kadd ksS name=ksS:=by
  simp only [ksS,List.mem_cons,List.not_mem_nil,or_false] at hk;rcases hk with rfl|rfl|rfl|rfl <;> exact ⟨by kernel_rfl,by decide⟩
 refine i_set S T.x_ h1 h2 (by decide) (by kernel_rfl) (by kernel_rfl) key.1 (by kernel_rfl) λs' od' oa' S'=>?_;rw [key.2] at oa';exact h _ _ _ _ _ oa' h3 h4 h5 h6 S'
theorem Srt.setR (T:Srt w F₀ g x sdx d nodes rv po fi) (S:St B L m g s) {v:Value} {Q:Unit->Shared->Prop} (h:∀ s' od',Srt w F₀ (put g sdx od') x sdx d nodes v po fi->St B L m (put g sdx od') s'->Q () s'):wpAny (model PG w) A (setAttr (.ref x) sRdy v) Q E s:=
 T.setA S (by decide) λs' od' mA tp tf oa h1 h2 h3 h4 S'=>h _ _ (T.attr oa ((if_neg (by decide)).trans h1) (if_pos rfl) ((if_neg (by decide)).trans h3) ((if_neg (by decide)).trans h4)) S'
theorem Srt.setP (T:Srt w F₀ g x sdx d nodes rv po fi) (S:St B L m g s) {v:Int} {t:Tok} {Q:Unit->Shared->Prop} (h:∀ s' od',Srt w F₀ (put g sdx od') x sdx d nodes rv v fi->St B L m (put g sdx od') s'->Q () s'):wpAny (model PG w) A (setAttr (.ref x) sPo (.int v t)) Q E s:=
 T.setA S (by decide) λs' od' mA tp tf oa h1 h2 h3 h4 S'=>h _ _ (T.attr oa ((if_neg (by decide)).trans h1) ((if_neg (by decide)).trans h2) (if_pos rfl) ((if_neg (by decide)).trans h4)) S'
theorem Srt.setF (T:Srt w F₀ g x sdx d nodes rv po fi) (S:St B L m g s) {v:Int} {t:Tok} {Q:Unit->Shared->Prop} (h:∀ s' od',Srt w F₀ (put g sdx od') x sdx d nodes rv po v->St B L m (put g sdx od') s'->Q () s'):wpAny (model PG w) A (setAttr (.ref x) sFi (.int v t)) Q E s:=
 T.setA S (by decide) λs' od' mA tp tf oa h1 h2 h3 h4 S'=>h _ _ (T.attr oa ((if_neg (by decide)).trans h1) ((if_neg (by decide)).trans h2) ((if_neg (by decide)).trans h3) (if_pos rfl)) S'
theorem Srt.item (T:Srt w F₀ g x sdx d nodes rv po fi) (S:St B L m g s) {value sl:Expr} {n:Str} {t:Tok} {Q:Value->Shared->Prop} (hn:n∈nodes.map (·.n)) (h:∀ s' nd,nd∈nodes->nd.n=n->St B L m g s'->Q (.ref nd.x) s')
  (hs:subscripted sl false (.ref d) (.str n t)=operate [.ref d,.str n t] (getItem (.ref d) (.str n t)):=by with_unfolding_all rfl):wpAny (model PG w) A (subscriptTail value sl (.ref d) (.str n t)) Q E s:=by
 obtain ⟨oD,hD,odD⟩:=T.d_;rcases valueAt_nodes (nodes:=nodes) (n:=n) with ⟨nd,hnd,hnn,hv⟩|⟨hnn,hv⟩
 ·exact t_dict S (odD.dictOf (S.sub hD)) hv (λs' S'=>h _ _ hnd hnn S') hs
 ·exact absurd hn hnn
theorem o_tupleL {l:Addr} {vs:List Value} {o:Obj} {Q:Value->Shared->Prop} (S:St B L m g s) (h:g l=some o) (x:OL vs o) (hz:vs.length≤1000) (hq:∀ s' T o',OT vs o'->g T=none->St B L m (put g T o') s'->Q (.ref T) s'):wpAny (model PG w) A (call (.type "tuple") [.ref l]) Q E s:=by
 have sz:=sizeLine_eq;refine call_tuple_list (x.isList (S.sub h)) (λh' hk=>?_) (by rw [List.size_toArray];exact n_t ‹_› (by decide));have S':St B L m g { s with heap:=h' }:=S.grow hk s.toks;exact hq _ _ _ ⟨rfl,0,rfl⟩ (S'.kp.fresh (Nat.le_refl _)) (S'.alloc _ s.toks)
noncomputable def getReadyP (ps:List PN) (rdy:List Str):List PN:=rdy.foldl (λps n=>mapP ps n (setP (-1))) ps
theorem sp_getReady (K:Kp B g s) (hr:Rm A 4) (hh:A.handled=none) (T:Srt w F₀ g x sdx d nodes (.ref rl) po fi) (R:RdyAt F₀ g nodes rl rdy) (hz:rdy.length≤1000) (hin:∀ n∈rdy,n∈nodes.map (·.n)) :
  codeAny (model PG w) A (.call (.ref 99) ⟨[.ref x],[]⟩) (λr s'=>Ex6 λU oU vs nodes' g' po'=>And8 (r=.ok (.ret (.ref U))) (Kp B g' s') (OT vs oU) (StrsAre vs rdy) (g' U=some oU) (Srt w F₀ g' x sdx d nodes' (.ref rl) po' fi) (RdyAt F₀ g' nodes' rl []) (nodes'.map Node.pn=getReadyP (nodes.map Node.pn) rdy)) s:=by
 refine call_fnA (binds:=[(Str.ofString "self",.ref x)]) K hr hh (by rfl) (by kernel_rfl) (BindsTo.of_eq rfl) (by rfl) (λA L s E hr hh S=>?_);intro _ _;refine in_envX ?_;intro _;walk_at "J";refine T.getR rfl S λs S=>?_;walk_at "J";refine o_isNone ?_;walk_at "J";refine x_iteF (by rfl) ?_;walk_at "J";refine T.getR rfl ‹_› λs S=>?_;walk_at "J";obtain ⟨oR,vR,g3,g4,g5⟩:=R.l.ol;have lv:=g5.len_eq;refine o_tupleL ‹_› g3 g4 (by exact n_t (n_e ‹_›) ‹_›) λs U oU otU nU S=>?_;walk_at "J";have T₁:=T.alloc (l:=U) (o:=oU) nU;have R₁:=R.alloc (l:=U) (o:=oU) nU;refine T₁.getN ‹_› λs S=>?_;walk_at "J"
 refine for_O (O_tuple ‹_› hh (.inl (put_self ..)) otU) (λi m' g'=>∃ nodes',And7 (Srt w (put F₀ U oU) g' x sdx d nodes' (.ref rl) po fi) (RdyAt (put F₀ U oU) g' nodes' rl rdy) (nodes'.map (·.n)=nodes.map (·.n)) (m' (Str.ofString "self")=some (.ref x)) (m' (Str.ofString "n2i")=some (.ref d)) (m' (Str.ofString "result")=some (.ref U)) (getReadyP (nodes'.map Node.pn) (rdy.drop i)=getReadyP (nodes.map Node.pn) rdy)) (λ_ _ _=>False)
  ⟨nodes,T₁,R₁,rfl,by walk_at "J.m",by walk_at "J.m",by walk_at "J.m",rfl⟩ ?_ ?_ ?_ (λ_ _ _ _ h=>h.elim)
 ·rintro i m' g'' ⟨_,T',_⟩;exact keep1 (put_self ..) (T'.sub _ _ (put_self ..))
 ·rintro i v m' g' s₁ B' E₁ _ hi hv ⟨nodes',T',R',hn,h1,h2,h3,h4⟩ S₁;refine gq λ_ z3=>?_;obtain ⟨n,tn,rfl,hx⟩:=g5.item _ _ hv;refine z3 ?_;rw [drop_at hx] at h4;walk_at "J";refine T'.item ‹_› (by rw [hn];exact hin n (List.mem_of_getElem? hx)) λs nd hm hnn S=>?_;walk_at "J";obtain ⟨od,osl,vs,t,t',k1,k2,k3,k4,k5⟩:=T'.nd_ nd hm;refine n_setNp ‹_› k1 k2 λs S=>?_;walk_at "J";have T₃:=T'.setX hm (np:=-1) (t:=t) (t':=197);have R₃:=R'.setX T' hm (o':=nodeO nd.dx nd.sl nd.n t (-1) 197) (f:=λm=>{ m with np:=-1 }) (λ_=>rfl) (n:=nd.n);refine ⟨_,_,‹_›,_,T₃,R₃,((mapN_map (f:=λm:Node=>{ m with np:=-1 }) (p:=λm:Node=>m.n) (λ_=>rfl)).trans hn),by walk_at "J.m",by walk_at "J.m",by walk_at "J.m",?_⟩;rw [pn_mapN (p:=setP (-1)) (λm hm' q=>(T'.inj hm' hm).1 q) rfl,hnn];exact h4
 ·rintro m' g' s₁ E₁ ⟨nodes',T',R',hn,h1,h2,h3,h4⟩ S₁;rw [lv,List.drop_length] at h4;walk_at "J";obtain ⟨oR',vR',r3,r4,r5⟩:=R'.l.ol;have lv':=r5.len_eq;have sz:=sizeLine_eq;refine r_meth F.plainAttrs_list F.slot_list_clear F.type_list_clear ?_;walk_at "J";refine T'.getR rfl ‹_› λs S=>?_;refine ⟨r4.typeIs (S.sub r3),λa e=>by cases e;exact ⟨_,S.sub r3,by obtain ⟨n,rfl⟩:=r4;rfl⟩,?_⟩;walk_at "J";refine o_clear ‹_› r3 r4 (by exact n_t (n_e ‹_›) (n_t ‹_› (by decide))) λs o' ol' S=>?_;obtain ⟨T₂,R₂⟩:=T'.putR R' ol' .nil;walk_at "J";refine T₂.getP ‹_› λs tp S=>?_;walk_at "J";have hU:=T₂.sub _ _ (put_self ..);refine o_lenT ‹_› (otU.has (.inl hU) (St.kp ‹_›)) (by exact n_t (n_e ‹_›) ‹_›) λs tl S=>?_;walk_at "J";refine o_iaddI ‹_› λs tk S=>?_;refine T₂.setP ‹_› λs od' T₃ S=>?_;have R₃:=R₂.attr T₂ (o':=od');walk_at "J";have hF:=none_sub nU T.sub;exact ⟨U,oU,vR,nodes',_,_,rfl,St.kp ‹_›,otU,g5,T₃.sub _ _ (put_self ..),T₃.weaken (Sub.put hF),R₃.weaken (Sub.put hF),h4⟩
end
noncomputable abbrev SS:=List PN×List Str
noncomputable def pfind (ps:List PN) (n:Str):Option PN:=ps.find? λp=>p.1=n
noncomputable def stepS (st:SS) (n:Str):Option SS:=
 match pfind st.1 n with
 |none=>none
 |some p=>some (mapP st.1 n (incP (-1)),if p.2.1 - 1=0 then st.2 ++ [n] else st.2)
noncomputable def doneOne (st:SS) (n:Str):Option SS:=
 match pfind st.1 n with
 |some p=>if p.2.1=-1 then p.2.2.foldlM stepS (mapP st.1 n (setP (-2)),st.2) else none
 |none=>none
theorem foldlM_cons {α β:Type} {f:β->α->Option β} {a:α} {l:List α} {b c:β} (h:(a :: l).foldlM f b=some c):∃ b',f b a=some b'∧l.foldlM f b'=some c:=by
 rw [List.foldlM_cons] at h;cases q:f b a with
 |none=>rw [q] at h;cases h
 |some b'=>rw [q] at h;exact ⟨b',rfl,h⟩
theorem pfind_node {nodes:List Node} {n:Str} {p:PN} (h:pfind (nodes.map Node.pn) n=some p):∃ nd∈nodes,nd.n=n∧nd.pn=p:=by
 unfold pfind at h;have h1:=List.mem_of_find?_eq_some h;have h2:=List.find?_some h;obtain ⟨nd,hm,rfl⟩:=List.mem_map.mp h1;exact ⟨nd,hm,of_decide_eq_true h2,rfl⟩
theorem suc_mapP {ps:List PN} {n:Str} {f:PN->PN} (hf:∀ p,(f p).2.2=p.2.2) (h:∀ p∈ps,p.2.2.length≤100):∀ p∈mapP ps n f,p.2.2.length≤100:=by
 intro p hp;unfold mapP at hp;obtain ⟨q,hq,rfl⟩:=List.mem_map.mp hp
 split
 ·rw [hf];exact h q hq
 ·exact h q hq
theorem nodeO_list {g:PH} {a l:Addr} {dx sl:Addr} {n:Str} {t t':Tok} {np:Int} {o:Obj} {vs:List Value} (h:g a=some (nodeO dx sl n t np t')) (hl:g l=some o) (x:OL vs o):l≠a:=by
 rintro rfl;rw [h] at hl;cases hl;exact absurd x.cls (by intro e;cases e)
section
variable {w:World} {B:Bs w} {A:Around} {L:Addr} {m m':Str->Option Value} {F₀ g g':PH} {s:Shared} {env:Env} {E:Value->Shared->Prop} {pl:Sem Bool} {x sdx d rl:Addr} {nodes:List Node} {rv:Value} {po fi:Int} {rdy:List Str}
theorem o_eqI {a b:Int} {t u:Tok} {Q:Value->Shared->Prop} (h:Q (.bool (decide (a=b))) s):wpAny (model PG w) A (compareOp .Eq (.int a t) (.int b u)) Q E s:=eq_int (by exact h)
theorem o_neI {a b:Int} {t u:Tok} {Q:Value->Shared->Prop} (h:Q (.bool (decide (a≠b))) s):wpAny (model PG w) A (compareOp .NotEq (.int a t) (.int b u)) Q E s:=ne_int (by rw [show (a != b)=decide (a≠b) from by rw [Bool.eq_iff_iff];simp];exact h)
theorem sp_done {vs:List Value} {ns:List Str} {st':SS} (K:Kp B g s) (hr:Rm A 4) (hh:A.handled=none) (T:Srt w F₀ g x sdx d nodes (.ref rl) po fi) (R:RdyAt F₀ g nodes rl rdy) (hns:StrsAre vs ns) (hz:ns.length≤60) (hzr:rdy.length≤100)
  (hzs:∀ p∈nodes.map Node.pn,p.2.2.length≤100)
  (hd:ns.foldlM doneOne (nodes.map Node.pn,rdy)=some st') :
  codeAny (model PG w) A (.call (.ref 120) ⟨.ref x :: vs,[]⟩) (λr s'=>Ex3 λnodes' g' fi'=>And5 (r=.ok (.ret .none)) (Kp B g' s') (Srt w F₀ g' x sdx d nodes' (.ref rl) po fi') (RdyAt F₀ g' nodes' rl st'.2) (nodes'.map Node.pn=st'.1)) s:=by
 have lv:=hns.len_eq;refine call_fnBA (λbinds g'=>Ex2 λl o=>And4 (g l=none) (g'=put g l o) (OT vs o) (binds=[(Str.ofString "self",.ref x),(Str.ofString "nodes",.ref l)])) K hr hh (by rfl) (by kernel_rfl) (λQ E hQ=>?_) λA binds g' L s' E' hr hh hP S=>?_
 ·have fin:wpAny (model PG w) A.in1 (newTuple vs >>= λl=>pure [(Str.ofString "self",Value.ref x),(Str.ofString "nodes",l)]) Q E s:=
   wpAny_bind (n_tupleKp K (λs' l o' ot hl K'=>wpAny_pure (hQ _ _ _ K' ⟨l,o',hl,rfl,ot,rfl⟩ (by rfl))) (by rw [sizeLine_eq];exact n_t (n_e ‹_›) (n_t ‹_› (by decide))))
  cases vs with
  |nil=>exact fin
  |cons v r=>exact fin
 intro _ _;refine in_envX ?_;intro _;refine gq λ_ z1=>?_;obtain ⟨l,o,hl,rfl,ot,rfl⟩:=hP;refine z1 ?_;have T₁:=T.alloc (l:=l) (o:=o) hl;have R₁:=R.alloc (l:=l) (o:=o) hl;have lF:F₀ l=none:=none_sub hl T.sub;walk_at "J";refine T₁.getR rfl S λs S=>?_;walk_at "J";refine o_isNone ?_;walk_at "J";refine x_iteF (by rfl) ?_;walk_at "J";refine T₁.getN ‹_› λs S=>?_;walk_at "J"
 refine for_O (O_tuple ‹_› hh (.inl (put_self ..)) ot) (λi m' g'=>Ex3 λnodes' rdy' fi'=>And7 (Srt w (put F₀ l o) g' x sdx d nodes' (.ref rl) po fi') (RdyAt (put F₀ l o) g' nodes' rl rdy') (m' (Str.ofString "self")=some (.ref x)) (m' (Str.ofString "n2i")=some (.ref d)) ((ns.drop i).foldlM doneOne (nodes'.map Node.pn,rdy')=some st') ((∀ p∈nodes'.map Node.pn,p.2.2.length≤100)) (rdy'.length≤100 + 100 * i)) (λ_ _ _=>False)
  ⟨nodes,rdy,fi,T₁,R₁,by walk_at "J.m",by walk_at "J.m",hd,hzs,hzr⟩ ?_ ?_ ?_ (λ_ _ _ _ h=>h.elim)
 ·rintro i m' g'' ⟨_,_,_,T',_⟩;exact keep1 (put_self ..) (T'.sub _ _ (put_self ..))
 ·rintro i v m' g' s₁ B' E₁ _ hi hv ⟨nodes',rdy',fi',T',R',h1,h2,h3,h4,h5⟩ S₁;refine gq λ_ z2=>?_;obtain ⟨n,tn,rfl,hx⟩:=hns.item _ _ hv;rw [drop_at hx] at h3;obtain ⟨st₁,hd₁,h3⟩:=foldlM_cons h3;refine z2 ?_;unfold doneOne at hd₁;cases hp:pfind (nodes'.map Node.pn,rdy').1 n with
  |none=>rw [hp] at hd₁;cases hd₁
  |some p=>
  rw [hp] at hd₁;refine gq λ_ z3=>?_;obtain ⟨nd,hm,hnn,rfl⟩:=pfind_node hp;refine z3 ?_
  have hnp:nd.pn.2.1=-1:=by
   by_cases hnp:nd.pn.2.1=-1
   ·exact hnp
   ·have hd₁:=hd₁.symm.trans (if_neg hnp);cases hd₁
  replace hd₁:=(if_pos hnp).symm.trans hd₁
  have hsuc:nd.succ.length≤100:=h4 _ (List.mem_map.mpr ⟨nd,hm,rfl⟩)
  replace hnp:nd.np=-1:=hnp
  refine gq λ_ z4=>?_;obtain ⟨oD,hD,odD⟩:=T'.d_;obtain ⟨od,osl,vsl,t,t',k1,k2,k3,k4,k5⟩:=T'.nd_ nd hm;refine z4 ?_;have lvs:=k5.len_eq
  have hv:valueAt (nodes'.map λnd=>(nd.n,Value.ref nd.x)) n=some (.ref nd.x):=by
   rcases valueAt_nodes (nodes:=nodes') (n:=n) with ⟨nd',hnd,hnn',hv⟩|⟨hnn',hv⟩
   ·rw [(T'.inj hm hnd).1 (hnn.trans hnn'.symm)];exact hv
   ·exact absurd (List.mem_map.mpr ⟨nd,hm,hnn⟩) hnn'
  walk_at "J";refine r_meth F.plainAttrs_dict F.slot_dict_get F.type_dict_get ?_;walk_at "J";refine ⟨(odD.dictOf (St.sub ‹_› hD)).mapOf.typeIs,λa e=>by cases e;exact ⟨_,St.sub ‹_› hD,odD.1.2.1⟩,?_⟩;walk_at "J";refine o_get1 ‹_› (sysNe ‹_› hD) (odD.dictOf (St.sub ‹_› hD)) λs S=>?_;rw [hv];walk_at "J";refine o_isNone ?_;walk_at "J";refine x_iteF (by rfl) ?_;walk_at "J";refine n_getNp ‹_› k1 k2 λs S=>?_;walk_at "J";refine o_neI ?_;walk_at "J";refine x_iteF (by rw [hnp];rfl) ?_;walk_at "J";refine n_setNp ‹_› k1 k2 λs S=>?_;have T₃:=T'.setX hm (np:=-2) (t:=t) (t':=200);have R₃:=R'.setX T' hm (o':=nodeO nd.dx nd.sl nd.n t (-2) 200) (f:=λm=>{ m with np:=-2 }) (λ_=>rfl) (n:=nd.n);have e₃:=pn_mapN (f:=λm:Node=>{ m with np:=-2 }) (p:=setP (-2)) (λm hm' q=>(T'.inj hm' hm).1 q) rfl;have h4':∀ p∈(mapN nodes' nd.n λm=>{ m with np:=-2 }).map Node.pn,p.2.2.length≤100:=by rw [e₃];exact suc_mapP (λ_=>rfl) h4
  rw [<-hnn,<-e₃] at hd₁;have slx:=nodeO_list k1 k3 k4;have k3':put g' nd.x (nodeO nd.dx nd.sl nd.n t (-2) 200) nd.sl=some osl:=(put_ne slx).trans k3;have k1':=put_self (g:=g') (a:=nd.x) (o:=nodeO nd.dx nd.sl nd.n t (-2) 200);obtain ⟨y2,k2'⟩:=put_some (a:=nd.x) (o':=nodeO nd.dx nd.sl nd.n t (-2) 200) k2;have slr:=R'.sl nd hm;generalize (mapN nodes' nd.n λm=>{ m with np:=-2 })=nodes₃ at *;walk_at "J";refine n_getSucc ‹_› k1' k2' λs S=>?_
  refine for_O (O_list ‹_› hh (.inl k3') k4) (λj m'' g''=>Ex2 λnodes' rdy''=>And8 (Srt w (put F₀ l o) g'' x sdx d nodes' (.ref rl) po fi') (RdyAt (put F₀ l o) g'' nodes' rl rdy'') (g'' nd.sl=some osl) (m'' (Str.ofString "self")=some (.ref x)) (m'' (Str.ofString "n2i")=some (.ref d)) ((nd.succ.drop j).foldlM stepS (nodes'.map Node.pn,rdy'')=some st₁) ((∀ p∈nodes'.map Node.pn,p.2.2.length≤100)) (rdy''.length≤rdy'.length + j)) (λ_ _ _=>False)
   ⟨nodes₃,rdy',T₃,R₃,k3',by walk_at "J.m",by walk_at "J.m",hd₁,h4',Nat.le_refl _⟩ ?_ ?_ ?_ (λ_ _ _ _ h=>h.elim)
  ·rintro j m'' g'' ⟨_,_,_,_,h,_⟩;exact keep1 (k3') (h)
  ·rintro j v m'' g'' s₂ B'' E₂ _ hj hv ⟨nodes'',rdy'',T'',R'',q0,q1,q2,q3,q4,q5⟩ S₂;refine gq λ_ z5=>?_;obtain ⟨c,tc,rfl,hc⟩:=k5.item _ _ hv;rw [drop_at hc] at q3;obtain ⟨st₂,hs₂,q3⟩:=foldlM_cons q3;refine z5 ?_;unfold stepS at hs₂;cases hp:pfind (nodes''.map Node.pn,rdy'').1 c with
   |none=>rw [hp] at hs₂;cases hs₂
   |some p=>
   rw [hp] at hs₂;refine gq λ_ z6=>?_;obtain ⟨nc,hmc,hnc,rfl⟩:=pfind_node hp;refine z6 ?_
   replace hs₂:=Option.some.inj hs₂
   subst hs₂;walk_at "J";refine T''.item ‹_› (List.mem_map.mpr ⟨nc,hmc,hnc⟩) λs nd' hm' hnn' S=>?_;have:=(T''.inj hm' hmc).1 (hnn'.trans hnc.symm);subst this;walk_at "J";obtain ⟨od₂,osl₂,vsl₂,t₂,t₂',r1,r2,r3,r4,r5⟩:=T''.nd_ nd' hmc;refine n_getNp ‹_› r1 r2 λs S=>?_;walk_at "J";refine o_isubI ‹_› λs tk S=>?_;refine n_setNp ‹_› r1 r2 λs S=>?_;have T₅:=T''.setX hmc (np:=nd'.np - 1) (t:=t₂) (t':=tk);have R₅:=R''.setX T'' hmc (o':=nodeO nd'.dx nd'.sl nd'.n t₂ (nd'.np - 1) tk) (f:=λm=>{ m with np:=nd'.np - 1 }) (λ_=>rfl) (n:=nd'.n);have e₅:=pn_mapN (f:=λm:Node=>{ m with np:=nd'.np - 1 }) (p:=incP (-1)) (λm hm' q=>(T''.inj hm' hmc).1 q) rfl;have q4':∀ p∈(mapN nodes'' nd'.n λm=>{ m with np:=nd'.np - 1 }).map Node.pn,p.2.2.length≤100:=by rw [e₅];exact suc_mapP (λ_=>rfl) q4
   have slx':=nodeO_list r1 q0 k4;have q0':put g'' nd'.x (nodeO nd'.dx nd'.sl nd'.n t₂ (nd'.np - 1) tk) nd.sl=some osl:=(put_ne slx').trans q0;obtain ⟨y3,r2'⟩:=put_some (a:=nd'.x) (o':=nodeO nd'.dx nd'.sl nd'.n t₂ (nd'.np - 1) tk) r2;rw [hnc] at e₅;dsimp only at q3;rw [<-e₅] at q3;walk_at "J";refine n_getNp ‹_› (put_self ..) r2' λs S=>?_;walk_at "J";refine o_eqI ?_;walk_at "J"
   by_cases hz0:nd'.np - 1=0
   ·replace q3:List.foldlM stepS ((mapN nodes'' nd'.n λm=>{ m with np:=nd'.np - 1 }).map Node.pn,rdy'' ++ [c]) (nd.succ.drop (j + 1))=some st₁:=by
     have:=q3;rw [if_pos (show nd'.pn.2.1 - 1=0 from hz0)] at this;rw [hnc];exact this
    refine x_iteT (by rw [hz0];rfl) ?_;walk_at "J";obtain ⟨oR',vR',u3,u4,u5⟩:=R₅.l.ol;have lv':=u5.len_eq;have sz:=sizeLine_eq;refine r_meth F.plainAttrs_list F.slot_list_append F.type_list_append ?_;walk_at "J";refine T₅.getR rfl ‹_› λs S=>?_;refine ⟨u4.typeIs (S.sub u3),λa e=>by cases e;exact ⟨_,S.sub u3,by obtain ⟨n,rfl⟩:=u4;rfl⟩,?_⟩;walk_at "J";refine o_append ‹_› u3 u4 (by omega) λs o' ol' S=>?_;obtain ⟨T₆,R₆⟩:=T₅.putR R₅ (rdy':=rdy'' ++ [c]) ol' (u5.append' (.cons _ _ .nil));walk_at "J";refine ⟨_,_,‹_›,_,_,T₆,R₆,(put_ne slr).trans q0',by walk_at "J.m",by walk_at "J.m",q3,q4',by rw [List.length_append];simp;exact om41 q5 lv'⟩
   ·replace q3:List.foldlM stepS ((mapN nodes'' nd'.n λm=>{ m with np:=nd'.np - 1 }).map Node.pn,rdy'') (nd.succ.drop (j + 1))=some st₁:=by
     have:=q3;rw [if_neg (show ¬ nd'.pn.2.1 - 1=0 from hz0)] at this;rw [hnc];exact this
    refine x_iteF (by exact decide_eq_false hz0) ?_;walk_at "J";exact ⟨_,_,‹_›,_,_,T₅,R₅,q0',by walk_at "J.m",by walk_at "J.m",q3,q4',by exact om42 q5⟩
  ·rintro m'' g'' s₂ E₂ ⟨nodes'',rdy'',T'',R'',q0,q1,q2,q3,q4,q5⟩ S₂;rw [lvs,List.drop_length] at q3;cases q3;walk_at "J";refine T''.getF ‹_› λs tp S=>?_;walk_at "J";refine o_iaddI ‹_› λs tk S=>?_;refine T''.setF ‹_› λs od' T₇ S=>?_;have R₇:=R''.attr T'' (o':=od');walk_at "J";exact ⟨_,_,‹_›,_,_,_,T₇,R₇,by walk_at "J.m",by walk_at "J.m",h3,q4,by exact om43 h5 hsuc lvs q5⟩
 ·rintro m' g' s₁ E₁ ⟨nodes',rdy',fi',T',R',h1,h2,h3,h4,h5⟩ S₁;rw [lv,List.drop_length] at h3;cases h3;walk_at "J";exact ⟨_,_,_,rfl,St.kp ‹_›,T'.weaken (Sub.put lF),R'.weaken (Sub.put lF),rfl⟩
end
section
variable {w:World} {B:Bs w} {A:Around} {L e:Addr} {m m':Str->Option Value} {g g':PH} {s:Shared} {env:Env} {E:Value->Shared->Prop} {pl:Sem Bool}
noncomputable def FrOk {w:World} (B:Bs w) (fl:List Env):Prop:=∀ env∈fl,env.scope.kind≠.module∧Ex2 λL o=>And3 (env.frame=some L) (B.base L=some (.fr o)) (∀ vs,o.data≠.fields vs)
theorem FrOk.le {B B':Bs w} {fl:List Env} (h:FrOk B fl) (k:Le B B'):FrOk B' fl:=λenv he=>let ⟨a,L,o,b,c,d⟩:=h env he;⟨a,L,o,b,k _ _ c,d⟩
theorem St.callF (S:St B L m g s) {fl:List Env} (hfl:FrOk B fl) (env:Env) (hf:env.frame=some L) (hk:env.scope.kind≠.module):∃ B':Bs w,And3 (FrOk B' (env :: fl)) (Kp B' g s) (∀ s' g',Kp B' g' s'->St B L m g' s'):=by
 obtain ⟨oL,es,ep,hL,hd,hkk,hff⟩:=id S.ns;have hb:(B.ext (one L (.fr oL)) (one_none S.o1.symm) (one_none S.o2.symm)).base L=some (.fr oL):=by show extB _ _ _=_;rw [extB_new S.offb];exact one_self
 have K:=S.kp.ext (r:=one L (.fr oL)) (one_none S.o1.symm) (one_none S.o2.symm) λb o e=>by
  obtain ⟨rfl,rfl⟩:=one_some e;exact ⟨⟨oL.slots,hL⟩,S.off⟩
 refine ⟨B.ext (one L (.fr oL)) (one_none S.o1.symm) (one_none S.o2.symm),λev he=>?_,K,λs' g' K₂=>?_⟩
 ·rcases List.mem_cons.mp he with rfl|he
  ·exact ⟨hk,L,oL,hf,hb,λvs q=>by rw [hd] at q;cases q⟩
  ·exact hfl.le (B':=B.ext (one L (.fr oL)) (one_none S.o1.symm) (one_none S.o2.symm)) (λb o e=>extB_of e) ev he
 ·obtain ⟨sl,hb'⟩:=K₂.ov _ _ hb;refine ⟨K₂.unext,⟨_,es,ep,hb',hd,hkk,hff⟩,?_,S.offb,S.o1,S.o2⟩;cases q:g' L with
  |none=>rfl
  |some x=>have:=K₂.dis _ _ q;rw [hb] at this;cases this
theorem ff_fun {base:Heap} (K:Kp B g s):∀ {l:List Env},(∀ env∈l,env.scope.kind≠.module∧Ex2 λL o=>And3 (env.frame=some L) (B.base L=some (.fr o)) (∀ vs,o.data≠.fields vs))->(∀ env∈l,∀ L,env.frame=some L->base.get? L=none)->s.heap.FunFrames base l
 |[],_,_=>trivial
 |env :: l,h,hb=>by
  obtain ⟨h1,L,o,h2,h3,h4⟩:=h env (.head _);obtain ⟨sl,h5⟩:=K.ov _ _ h3;exact ⟨h1,⟨L,_,h2,hb env (.head _) L h2,h5,h4⟩,ff_fun K (λev he=>h ev (.tail _ he)) λev he=>hb ev (.tail _ he)⟩
theorem St.slots (S:St B L m g s) {fs:List Addr} {h':Heap} (hfs:∀ b∈fs,b=L∨b=e∨∃ o,B.base b=some (.fr o)∧∀ vs,o.data≠.fields vs)
  (eg:g e=none) (eb:B.base e=none) (eL:e≠L) (e1:e≠321) (e2:e≠293)
  (k1:∀ b o,b∉fs->s.heap.get? b=some o->h'.get? b=some o) (k4:s.heap.UpToSlots h') (tk:Nat):St B L m g { s with heap:=h',toks:=tk }:=by
 have t1:(321:Addr)∉fs:=λh=>by
  rcases hfs _ h with h|h|⟨o,h,_⟩
  ·exact S.o1 h.symm
  ·exact e1 h.symm
  ·rw [B.h1] at h;cases h
 have t2:(293:Addr)∉fs:=λh=>by
  rcases hfs _ h with h|h|⟨o,h,_⟩
  ·exact S.o2 h.symm
  ·exact e2 h.symm
  ·rw [B.h2] at h;cases h
 have kg:∀ b o,g b=some o->h'.get? b=some o:=λb o e=>k1 b o (λh=>by
  rcases hfs _ h with rfl|rfl|⟨o',h,_⟩
  ·rw [S.off] at e;cases e
  ·rw [eg] at e;cases e
  ·rw [S.kp.dis _ _ e] at h;cases h) (S.sub e)
 refine ⟨⟨λb x e=>?_,kg,S.kp.dis,S.kp.gens,S.kp.os,S.kp.t1.mono (λo e=>k1 _ _ t1 e) (λ_ _ _ e=>e),S.kp.t2.mono (λo e=>k1 _ _ t2 e) (λ_ _ _ e=>e),S.kp.h1,S.kp.h2⟩,k4.ns S.ns,S.off,S.offb,S.o1,S.o2⟩
 by_cases hb:b∈fs
 ·rcases hfs _ hb with rfl|rfl|⟨o',h,hn⟩
  ·rw [S.offb] at e;cases e
  ·rw [eb] at e;cases e
  ·rw [h] at e;cases e;obtain ⟨sl,h2⟩:=S.ov _ _ h;obtain ⟨sl',h3⟩:=k4 _ _ h2 hn;exact ⟨sl',h3⟩
 ·exact (S.ov _ _ e).of λo e'=>k1 b o hb e'
theorem note_first {base:Heap} {outer:List Env} {oe:Obj} {vs:Array Value} {a0:Value} {Q:Unit->Shared->Prop} (hfr:A.frames=some (env :: outer)) (hl:s.heap.FunFrames base (env :: outer)) (hf:env.frame=some L)
  (he:s.heap.get? e=some oe) (hkb:base.StaysIn s.heap) (hen:base.get? e=none) (hd:oe.data=.fields vs) (h1:vs[1]?=some .none) (h0:vs[0]?=some a0)
  (h:∀ h',Heap.NotedW base (env :: outer) e oe.cls a0 (rawInt L) s.heap h'->Q () { s with heap:=h' }):wpAny (model PG w) A (noteFrame (.ref e) env) Q E s:=by
 unfold noteFrame;simp only [hf];refine wpAny_bind (wpAny_field he hd h1 ?_);rw [if_neg (by decide)];exact wpAny_entryW hfr hl hf he hkb hen hd (Array.getElem?_eq_some_iff.mp h1).1 h0 h
theorem mem_frames {l:List Env} {b:Addr} (h:b∈l.filterMap (·.frame)):∃ env∈l,env.frame=some b:=by
 obtain ⟨ev,h1,h2⟩:=List.mem_filterMap.mp h;exact ⟨ev,h1,h2⟩
theorem caughtF {x:Str} {X T:String} {oe:Obj} {vs:Array Value} {a0:Value} {b₀:Stmt} {suite:List Stmt} {np pos:Pos} {rest:List ExceptHandler} {Q:Flow->Shared->Prop} {fl:List Env} (S:St B L m g s) (hF:A.frames=some (env :: fl)) (hfl:FrOk B fl) (hf:env.frame=some L)
  (he:s.heap.get? e=some oe) (hc:oe.cls=.type X) (hd:oe.data=.fields vs) (h1:vs[1]?=some .none) (h0:vs[0]?=some a0)
  (eg:g e=none) (eb:B.base e=none) (eL:e≠L) (e1:e≠321) (e2:e≠293) (hv:B.mg x=none∧B.mb x=some (.type T))
  (hexc:isSubtype (.type T) (.type "BaseException")=pure true) (hnt:isSubtype (.type ((Manifest.find? T).elim "type" λy=>y.metatype)) (.type "tuple")=pure false) (hsub:isSubtype (.type X) (.type T)=pure true)
  (k:∀ s',St B L m g s'->wpAny (model PG w) (A.mark (some (.ref e))) (execs (b₀ :: suite) env) Q (λ_ _=>False) s')
  (hk:env.scope.kind=.function:=by rfl) (hx:env.kindOf x=some .globalImplicit:=by rfl) (hg:env.globals=mainGlobals:=by rfl) (hb:env.builtins=builtinsNs:=by rfl) (hdd:(x == ("__debug__":Str))=false:=by decide) :
  wpAny (model PG w) A (noteFrame (.ref e) env) (λ_ s₂=>wpAny (model PG w) A (setFlight (.ref e) none) (λ_ s₃=>
    wpAny (model PG w) A (handleBy (.ref e) env (.ExceptHandler (some (.Name x np)) none (b₀ :: suite) pos :: rest)) Q E s₃) E s₂) E s:=by
 have hkm:env.scope.kind≠.module:=by rw [hk];decide
 have hin:∀ ev∈env :: fl,∀ b,ev.frame=some b->b=L∨∃ o,B.base b=some (.fr o)∧∀ vs,o.data≠.fields vs:=λev hev b hbf=>by
  rcases List.mem_cons.mp hev with rfl|hev
  ·rw [hf] at hbf;cases hbf;exact .inl rfl
  ·obtain ⟨_,L',o,h2,h3,h4⟩:=hfl ev hev;rw [h2] at hbf;cases hbf;exact .inr ⟨o,h3,h4⟩
 obtain ⟨fs,hfs⟩:∃ fs,fs=(env :: fl).filterMap (·.frame) ++ [e]:=⟨_,rfl⟩
 have hfs':∀ b∈fs,b=L∨b=e∨∃ o,B.base b=some (.fr o)∧∀ vs,o.data≠.fields vs:=λb hb=>by
  rw [hfs] at hb;rcases List.mem_append.mp hb with hb|hb
  ·obtain ⟨ev,hev,hb⟩:=mem_frames hb;exact (hin ev hev b hb).imp id λh=>.inr h
  ·exact .inr (.inl (List.mem_singleton.mp hb))
 have hno:∀ b∈fs,(hideAll s.heap fs).get? b=none:=λb hb=>hideAll_none _ hb;have hyes:∀ b o,b∉fs->s.heap.get? b=some o->(hideAll s.heap fs).get? b=some o:=λb o hb e=>hideAll_get _ e hb;have hev:∀ ev∈env :: fl,∀ b,ev.frame=some b->(hideAll s.heap fs).get? b=none:=λev hev b hb=>hno b (by rw [hfs];exact List.mem_append_left _ (List.mem_filterMap.mpr ⟨ev,hev,hb⟩))
 have FF:s.heap.FunFrames (hideAll s.heap fs) (env :: fl):=by
  refine gq λ_ z1=>?_;obtain ⟨oL,es,ep,hL,hLd,_⟩:=S.ns;refine z1 ?_;exact ⟨hkm,⟨L,oL,hf,hev env (.head _) L hf,hL,λvs q=>by rw [hLd] at q;cases q⟩,ff_fun S.kp hfl λev h=>hev ev (.tail _ h)⟩
 refine note_first hF FF hf he (λb o q=>of_hideAll _ q) (hno e (by rw [hfs];exact List.mem_append_right _ (.head _))) hd h1 h0 λh' ⟨n1,n2,n3,n4⟩=>?_;have nE:(hideAll s.heap fs).get? e=none:=hno e (by rw [hfs];exact List.mem_append_right _ (.head _));refine wpAny_landsW (base:=hideAll s.heap fs) (l:=env :: fl) ⟨n1,nE,n2,n3⟩ λh₂ hfly u₂=>?_;have U₂:s.heap.UpToSlots h₂:=Heap.UpToSlots.trans (h₂:=h') n4 u₂;have S₂:St B L m g { s with heap:=h₂ }:=S.slots hfs' eg eb eL e1 e2 (λb o hb q=>hfly.1 _ _ (hyes b o hb q)) U₂ s.toks;obtain ⟨ob,hob,hobc⟩:=hfly.there;refine wpAny_handleBy_builtin (X:=X) (T:=T) (b:=true) hexc hnt hsub (r_builtin S₂ hv ⟨rfl,⟨ob,hob,hobc.trans hc⟩,?_⟩ hk hx hg hb hdd);refine lands_againW hfly λh₃ hfl₃ u₃=>?_;have S₃:St B L m g { s with heap:=h₃ }:=S.slots hfs' eg eb eL e1 e2 (λb o hb q=>hfl₃.1 _ _ (hyes b o hb q)) (U₂.trans u₃) s.toks;exact wpAny_noRaise (k _ S₃)
theorem x_tryE {body:List Stmt} {h₀:ExceptHandler} {hs:List ExceptHandler} {pos:Pos} {rest:List Stmt} {Q:Flow->Shared->Prop}
  (h:∀ R1:Flow->Shared->Prop,(∀ f s₁,(match f with|.next=>wpAny (model PG w) A (execs rest env) Q E s₁|f=>Q f s₁)->R1 f s₁)->∀ E1:Value->Shared->Prop,
   (∀ e s₁,wpAny (model PG w) A (noteFrame e env) (λ_ s₂=>wpAny (model PG w) A (setFlight e none) (λ_ s₃=>wpAny (model PG w) A (handleBy e env (h₀ :: hs)) R1 E s₃) E s₂) E s₁->E1 e s₁)->wpAny (model PG w) A (execs body env) R1 E1 s) :
  wpAny (model PG w) A (execs (.Try body (h₀ :: hs) [] [] pos :: rest) env) Q E s:=
 wpAny_execs_cons (wpAny_Try_except (wpAny_mono (h _ (λ_ _ h=>h) _ λ_ _ h=>h) (λf s₁ h₁=>by
  cases f with
  |next=>exact wpAny_execs_nil h₁
  |_=>exact h₁) λ_ _ e=>e))
end
theorem slot_lga:Slot "list_iterator" "__getattribute__" "object.__getattribute__":=
 .of (owner:="object") (n:="__getattribute__") (by rw [typeLookup_type,builtinLookup_eq_fast];kernel_rfl) (by decide +kernel) (by decide +kernel) (by decide +kernel)
  (by first|exact .inl (by decide +kernel)|exact .inr (by decide +kernel)) (by rw [isSubtype_type];kernel_rfl)
theorem li_next:typeLookup (.type "list_iterator") "__next__"=pure (some (.builtin "list_iterator.__next__")):=by rw [typeLookup_type,builtinLookup_eq_fast];kernel_rfl
theorem ty_next:typeOf (.builtin "list_iterator.__next__")=pure (.type "wrapper_descriptor"):=by show builtinType _=_;rw [builtinType_eq_fast];kernel_rfl
theorem wd_get:typeLookup (.type "wrapper_descriptor") "__get__"=pure (some (.builtin "wrapper_descriptor.__get__")):=by rw [typeLookup_type,builtinLookup_eq_fast];kernel_rfl
theorem wd_set:typeLookup (.type "wrapper_descriptor") "__set__"=pure none:=by rw [typeLookup_type,builtinLookup_eq_fast];kernel_rfl
theorem wd_del:typeLookup (.type "wrapper_descriptor") "__delete__"=pure none:=by rw [typeLookup_type,builtinLookup_eq_fast];kernel_rfl
theorem entry_wg:entryFor table "wrapper_descriptor.__get__"=some Builtin.«wrapper_descriptor.__get__»:=entryFor_of_tree (by kernel_rfl)
theorem slot_wg:Slot "wrapper_descriptor" "__get__" "wrapper_descriptor.__get__":=
 .of (owner:="wrapper_descriptor") (n:="__get__") wd_get (by decide +kernel) (by decide +kernel) (by decide +kernel)
  (by first|exact .inl (by decide +kernel)|exact .inr (by decide +kernel)) (by rw [isSubtype_type];kernel_rfl)
theorem args_wg (a b c:Value):argsOk "wrapper_descriptor.__get__" ⟨[a,b,c],[]⟩:=by unfold argsOk;kernel_rfl
theorem sub_li:isSubtype (.type "list_iterator") (.type "list_iterator")=pure true:=by rw [isSubtype_type];kernel_rfl
noncomputable def liObj (l:Addr) (i:Nat):Obj:={ cls:=.type "list_iterator",data:=.fields #[.ref l,.int i 0] }
noncomputable def mwObj (it:Addr):Obj:={ cls:=.type "method-wrapper",data:=.fields #[.builtin "list_iterator.__next__",.ref it] }
section
variable {w:World} {B:Bs w} {A:Around} {L it:Addr} {m m':Str->Option Value} {g g':PH} {s:Shared} {env:Env} {E:Value->Shared->Prop} {pl:Sem Bool}
theorem wg_body {Q:Value->Shared->Prop} (hT:s.TypeIs (.ref it) "list_iterator") (h:Q (.ref s.heap.objs.size) { s with heap:=s.heap.push (mwObj it) }) :
  wpAny (model PG w) A (Builtin.«wrapper_descriptor.__get__» ⟨[.builtin "list_iterator.__next__",.ref it,.type "list_iterator"],[]⟩) (λfin s'=>∃ v,fin=.done (.ret v)∧Q v s') E s:=by
 unfold Builtin.«wrapper_descriptor.__get__»;have hsub:=sub_li
 repeat (any_goals (first|assumption|wp_step))
 have e:".".intercalate ("list_iterator.__next__".cutAt '.').dropLast="list_iterator":=by decide +kernel
 rw [e];refine wpAny_of_eq hsub ?_;rw [if_neg (by decide)];refine wpAny_pure (wpAny_bind ?_);unfold newFields;refine wpAny_newObj_type ?_ (by size_fits);exact wpAny_pure ⟨_,rfl,h⟩
theorem it_getNext {l:Addr} {i:Nat} {ex:Bool} {Q:Value->Shared->Prop} (S:St B L m g s) (hit:g it=some (liObj l i))
  (h:∀ s' M,g M=none->St B L m (put g M (mwObj it)) s'->Q (.ref M) s'):wpAny (model PG w) A (getAttr (.ref it) (Str.ofString "__next__") ex) Q E s:=by
 have S₁:=S.toks (s.toks + 1);have hoi:=S.sub hit;have hT:({ s with toks:=s.toks + 1 }:Shared).TypeIs (.ref it) "list_iterator":=⟨_,hoi,rfl⟩
 have code:∀ R:Result->Shared->Prop,(∀ s'',s''={ s with toks:=s.toks + 1,heap:=s.heap.push (mwObj it) }->R (.ok (.ret (.ref s.heap.objs.size))) s'')->codeAny (model PG w) A (.call (.builtin "object.__getattribute__") ⟨[.ref it,.str (Str.ofString "__next__") s.toks],[]⟩) R { s with toks:=s.toks + 1 }:=λR hR=>by
  refine codeAny_call_builtin slot_lga.plain entry_oga (slot_lga.check _ _ _ _ _ _ _ _ hT (args_oga _ _ _) ?_);unfold Builtin.«object.__getattribute__»;refine wpAny_bind (wpAny_pure (wpAny_bind (wpAny_pure (wpAny_bind (wpAny_typeOf hT ?_)))));unfold Builtin.ObjectAttr.find;refine wpAny_bind (wpAny_bind (wpAny_of_eq li_next (wpAny_bind ?_)));unfold Builtin.ObjectAttr.getOf specialOf;refine wpAny_bind (wpAny_of_eq ty_next (wpAny_of_eq wd_get (wpAny_bind ?_)));unfold Builtin.ObjectAttr.dataDescriptor? Builtin.ObjectAttr.takesStores specialOf;refine wpAny_bind (wpAny_bind (wpAny_bind (wpAny_of_eq ty_next (wpAny_of_eq wd_set ?_))));refine wpAny_bind (wpAny_bind (wpAny_of_eq ty_next (wpAny_of_eq wd_del ?_)));refine wpAny_pure (wpAny_pure ?_);unfold Builtin.ObjectAttr.ownThenClass Builtin.ObjectAttr.inOwnDict Builtin.ObjectAttr.ownDict;refine wpAny_bind (wpAny_bind (wpAny_bind (wpAny_loadPart hoi ?_)));refine wpAny_bind (wpAny_loadPart hoi (wpAny_pure ?_));refine wpAny_pure ?_;unfold Builtin.ObjectAttr.copiedAttributeGuard;refine wpAny_bind (wpAny_pure ?_);refine wpAny_bind (wpAny_rule (wpAny_pure ?_));unfold Builtin.ObjectAttr.bindTo;refine wpAny_bind (wpAny_holding ?_);refine wpAny_call ?_;have hTb:({ s with toks:=s.toks + 1 }:Shared).TypeIs (.builtin "list_iterator.__next__") "wrapper_descriptor":=ty_next;refine codeAny_call_builtin slot_wg.plain entry_wg (slot_wg.check _ _ _ _ _ _ _ _ hTb (args_wg _ _ _) (wpAny_mono (wg_body hT (Q:=λv s'=>v=.ref s.heap.objs.size∧s'={ s with toks:=s.toks + 1,heap:=s.heap.push (mwObj it) }) ⟨rfl,rfl⟩) (λfin s' h'=>?_) λ_ _ e=>e));obtain ⟨v,rfl,rfl,rfl⟩:=h';exact wpAny_pure (hR _ rfl)
 unfold getAttr getAttrBy;refine wpAny_bind (wpAny_mkText (wpAny_holding (wpAny_bind (wpAny_typeOf hT (wpAny_bind (wpAny_of_eq slot_lga.lookup ?_))))));have ot:onTheHeap (.type "list_iterator")=false:=by decide +kernel
 dsimp only;rw [ot];simp only [Bool.false_and,Bool.false_eq_true,if_false];unfold getAttrByItsOwn hookBefore;rw [ot];refine wpAny_bind (wpAny_pure (wpAny_bind (wpAny_attempt (wpAny_holding ?_))));have oh:onTheHeap (.builtin "object.__getattribute__")=false:=by decide +kernel
 unfold callGetattribute;rw [oh,Bool.and_false];simp only [Bool.false_eq_true,if_false];unfold boundAndCalled;rw [slot_lga.bind];refine wpAny_bind (wpAny_pure (wpAny_call (code _ λs'' e=>?_)));subst e;exact handed_on rfl (h _ _ (S.kp.fresh (Nat.le_refl _)) (S.alloc (mwObj it) (s.toks + 1)))
end
section
variable {w:World} {B:Bs w} {A:Around} {L it l M:Addr} {m m':Str->Option Value} {g g':PH} {s:Shared} {env:Env} {E:Value->Shared->Prop} {pl:Sem Bool} {ol:Obj} {vs:List Value} {i:Nat}
theorem next_item {v:Value} {R:Result->Shared->Prop} (hoi:s.heap.get? it=some (liObj l i)) (hl:s.heap.IsList l vs.toArray) (hv:vs[i]?=some v)
  (h:∀ h',h'.get? it=some (liObj l (i + 1))->Heap.SameBut it s.heap h'->R (.ok (.ret v)) { s with heap:=h' }):codeAny (model PG w) A (.builtin "list_iterator.__next__" ⟨[.ref it],[]⟩) R s:=by
 refine codeAny_builtin entry_listiter_next ?_;refine gq λ_ z1=>?_;obtain ⟨o2,hol,_,nl,hdl⟩:=hl;refine z1 ?_;show wpAny _ _ (field (.ref it) 0 >>= _) _ _ s;refine wpAny_bind (wpAny_field hoi rfl (x:=.ref l) rfl ?_);show wpAny _ _ (if (Value.ref l == Value.none)=true then _ else _) _ _ s;rw [if_neg (show ¬ ((Value.ref l == Value.none)=true) from Bool.false_ne_true)];show wpAny _ _ (field (.ref it) 1 >>= _) _ _ s;refine wpAny_bind (wpAny_field hoi rfl (x:=.int i 0) rfl ?_);show wpAny _ _ (seqItems? (.ref l) >>= _) _ _ s;refine wpAny_bind (wpAny_seqItems hol hdl ?_);have hx:vs.toArray[i]?=some v:=by simpa using hv
 simp only [Int.toNat_natCast,hx];refine wpAny_bind (wpAny_setField hoi rfl (by simp) (wpAny_pure (h _ ?_ (Heap.SameBut.update ..))));rw [Heap.get?_update_self _ hoi rfl];simp [liObj,Obj.mapFields,rawInt]
theorem next_end {R:Result->Shared->Prop} (hh:A.handled=none) (hoi:s.heap.get? it=some (liObj l i)) (hl:s.heap.IsList l vs.toArray) (hv:vs[i]?=none)
  (h:∀ h' e oe fs a0 o',(∀ b o,b≠it->s.heap.get? b=some o->h'.get? b=some o)->s.heap.objs.size≤e->h'.get? e=some oe->oe.cls=.type "StopIteration"->oe.data=.fields fs->fs[0]?=some a0->fs[1]?=some .none->h'.get? it=some o'->R (.error (.ref e)) { s with heap:=h' }):codeAny (model PG w) A (.builtin "list_iterator.__next__" ⟨[.ref it],[]⟩) R s:=by
 refine codeAny_builtin entry_listiter_next ?_;refine gq λ_ z2=>?_;obtain ⟨o2,hol,_,nl,hdl⟩:=hl;refine z2 ?_;show wpAny _ _ (field (.ref it) 0 >>= _) _ _ s;refine wpAny_bind (wpAny_field hoi rfl (x:=.ref l) rfl ?_);show wpAny _ _ (if (Value.ref l == Value.none)=true then _ else _) _ _ s;rw [if_neg (show ¬ ((Value.ref l == Value.none)=true) from Bool.false_ne_true)];show wpAny _ _ (field (.ref it) 1 >>= _) _ _ s;refine wpAny_bind (wpAny_field hoi rfl (x:=.int i 0) rfl ?_);show wpAny _ _ (seqItems? (.ref l) >>= _) _ _ s;refine wpAny_bind (wpAny_seqItems hol hdl ?_);have hx:vs.toArray[i]?=none:=by simpa using hv
 simp only [Int.toNat_natCast,hx];refine wpAny_bind (wpAny_rule (wpAny_bind (wpAny_setField hoi rfl (by simp) ?_)));show wpAny _ _ (newExc (.type "StopIteration") [] >>= _) _ _ _;refine wpAny_bind ?_;simp only [newExc,newTuple];refine wpAny_bind (wpAny_newObj_type ?_ (by size_fits));refine wpAny_bind (m:=firstArgMember _ _) (wpAny_of_eq (a:=Value.none) (by first|rfl|(simp only [firstArgMember];rfl)) ?_)
 refine wpAny_newObj_type ?_ (by size_fits);unfold raiseNew;refine wpAny_bind (wpAny_handled ?_);rw [show (A.under (Code.builtin "list_iterator.__next__" ⟨[.ref it],[]⟩)).handled=none from hh];refine wpAny_bind (wpAny_pure (wpAny_throw ?_));have sz:(s.heap.update it (Obj.mapFields λx=>x.setIfInBounds 0 Value.none)).objs.size=s.heap.objs.size:=(Heap.SameBut.update s.heap it (Obj.mapFields λx=>x.setIfInBounds 0 Value.none)).1;have hit':(s.heap.update it (Obj.mapFields λx=>x.setIfInBounds 0 Value.none)).get? it=some ((liObj l i).mapFields λx=>x.setIfInBounds 0 Value.none):=Heap.get?_update_self _ hoi rfl;refine h _ _ _ _ _ _ (λb o hb e=>?_) (by rw [Heap.size_push,sz];exact Nat.le_succ _) (Heap.get?_push_size _ rfl) rfl rfl rfl rfl (Heap.get?_push_of_some _ (Heap.get?_push_of_some _ hit'));exact Heap.get?_push_of_some _ (Heap.get?_push_of_some _ (((Heap.SameBut.update s.heap it (Obj.mapFields λx=>x.setIfInBounds 0 Value.none)).2 b hb).trans e))
theorem r_callSub {o i:Expr} {p pos:Pos} {args:List Expr} {Q:Value->Shared->Prop} (h:wpAny (model PG w) A (eval (.Subscript o i p) env) (λf s₁=>wpAny (model PG w) A (callWith pos f [] (backTo pos (starEach args env)) []) Q E s₁) E s) :
  wpAny (model PG w) A (eval (.Call (.Subscript o i p) args [] pos) env) Q E s:=wpAny_bind h
theorem r_cwMW {pos:Pos} {Q:Value->Shared->Prop} (hM:s.heap.get? M=some (mwObj it)) (h:codeAny (model PG w) A (.builtin "list_iterator.__next__" ⟨[.ref it],[]⟩) (λr s'=>match r with|.ok (.ret v)=>Q v s'|.ok _=>False|.error e=>E e s') s) :
  wpAny (model PG w) A (callWith pos (.ref M) [] (backTo pos (starEach [] env)) []) Q E s:=by
 unfold callWith;refine wpAny_bind (wpAny_holding (evalArgs_nil3 (wpAny_bind (wpAny_standAt ?_))));refine wpAny_bind ?_;unfold keeperOf;refine wpAny_bind (wpAny_load hM ?_);refine wpAny_pure ?_;show wpAny (model PG w) A (call (.ref M) [] >>= λr=>holding [r] point >>= λ_=>pure r) Q E s
 have c:codeAny (model PG w) A (.call (.ref M) ⟨[],[]⟩) (λr s'=>match r with|.ok (.ret v)=>Q v s'|.ok _=>False|.error e=>E e s') s:=by
  refine codeAny_of_tree ?_;show wpAny _ A.in1 (callAny (.ref M) ⟨[],[]⟩) _ _ s;unfold callAny;refine wpAny_bind (wpAny_load hM ?_);have ck:checkBoundCall "list_iterator.__next__" ⟨[.ref it],[]⟩=pure ():=by kernel_rfl
  show wpAny _ A.in1 (checkBoundCall "list_iterator.__next__" ⟨[.ref it],[]⟩ >>= λ_=>again (.builtin "list_iterator.__next__" ⟨[.ref it],[]⟩)) _ _ s;refine wpAny_bind (wpAny_of_eq ck (wpAny_pure ⟨Code.quiet_builtin _ (by decide +kernel),h⟩))
 exact wpAny_bind (wpAny_mono (wpAny_call c) (λr s₂ hr=>wpAny_bind (wpAny_holding (wpAny_point (wpAny_pure hr)))) λ_ _ e=>e)
theorem TabOk.mono' {g g':PH} {h h':Heap} {P:Addr} {q:Str} (t:TabOk g h P q) (hP:∀ o,h.get? P=some o->h'.get? P=some o) (hg:∀ b o vs q t,o.data=.fields vs->vs[1]?=some (.str q t)->g b=some o->g' b=some o):TabOk g' h' P q:=by
 obtain ⟨ps,h1,h2,h3⟩:=t;refine ⟨ps,hP _ h1,h2,λpos cv e=>?_⟩;obtain ⟨c,oc,vs,t,e1,e2,e3,e4⟩:=h3 pos cv e;exact ⟨c,oc,vs,t,e1,hg _ _ _ _ _ e3 e4 e2,e3,e4⟩
theorem St.setI (S:St B L m g s) {a:Addr} {o o':Obj} {h':Heap} (ha:g a=some o) (hc:∀ vs q t,o.data=.fields vs->vs[1]?≠some (.str q t)) (hk:∀ b o,b≠a->s.heap.get? b=some o->h'.get? b=some o) (ho:h'.get? a=some o') (tk:Nat) :
  St B L m (put g a o') { s with heap:=h',toks:=tk }:=by
 have n1:(321:Addr)≠a:=by rintro rfl;rw [S.kp.h1] at ha;cases ha
 have n2:(293:Addr)≠a:=by rintro rfl;rw [S.kp.h2] at ha;cases ha
 have nL:=S.ne ha
 have code:∀ b x vs q t,x.data=.fields vs->vs[1]?=some (.str q t)->g b=some x->put g a o' b=some x:=λb x vs q t h1 h2 e=>by
  refine (put_ne ?_).trans e;rintro rfl;rw [ha] at e;cases e;exact hc _ _ _ h1 h2
 refine ⟨⟨λb x e=>(S.ov _ _ e).of λo' e'=>hk _ _ ?_ e',λb x e=>?_,λb x e=>?_,S.kp.gens,S.kp.os,S.kp.t1.mono' (λo e=>hk _ _ n1 e) code,S.kp.t2.mono' (λo e=>hk _ _ n2 e) code,(put_ne n1).trans S.kp.h1,(put_ne n2).trans S.kp.h2⟩,?_,(put_ne nL).trans S.off,S.offb,S.o1,S.o2⟩
 ·rintro rfl;rw [S.kp.dis _ _ ha] at e;cases e
 ·by_cases hba:b=a
  ·subst hba;rw [put_self] at e;cases e;exact ho
  ·rw [put_ne hba] at e;exact hk _ _ hba (S.sub e)
 ·by_cases hba:b=a
  ·subst hba;exact S.kp.dis _ _ ha
  ·rw [put_ne hba] at e;exact S.kp.dis _ _ e
 ·obtain ⟨oL,es,ep,e,r⟩:=S.ns;exact ⟨oL,es,ep,hk _ _ nL e,r⟩
theorem liObj_code {l:Addr} {i:Nat}:∀ vs q t,(liObj l i).data=.fields vs->vs[1]?≠some (.str q t):=by
 intro vs q t h;cases h;simp
theorem c_next_item {pos:Pos} {v:Value} {Q:Value->Shared->Prop} (S:St B L m g s) (hM:g M=some (mwObj it)) (hit:g it=some (liObj l i)) (hl:g l=some ol) (x:OL vs ol) (hv:vs[i]?=some v)
  (h:∀ s',St B L m (put g it (liObj l (i + 1))) s'->Q v s'):wpAny (model PG w) A (callWith pos (.ref M) [] (backTo pos (starEach [] env)) []) Q E s:=by
 refine r_cwMW (S.sub hM) (next_item (S.sub hit) (x.isList (S.sub hl)) hv λh' ho hs=>?_);exact h _ (S.setI hit liObj_code (λb o hb e=>(hs.2 _ hb).trans e) ho s.toks)
theorem c_next_end {pos:Pos} {Q:Value->Shared->Prop} (S:St B L m g s) (hh:A.handled=none) (hM:g M=some (mwObj it)) (hit:g it=some (liObj l i)) (hl:g l=some ol) (x:OL vs ol) (hv:vs[i]?=none)
  (h:∀ s' e o' oe fs a0,St B L m (put g it o') s'->s'.heap.get? e=some oe->oe.cls=.type "StopIteration"->oe.data=.fields fs->fs[0]?=some a0->fs[1]?=some .none->put g it o' e=none->B.base e=none->e≠L->e≠321->e≠293->E (.ref e) s'):wpAny (model PG w) A (callWith pos (.ref M) [] (backTo pos (starEach [] env)) []) Q E s:=by
 refine r_cwMW (S.sub hM) (next_end hh (S.sub hit) (x.isList (S.sub hl)) hv λh' e oe fs a0 o' hk he hoe hc hd h0 h1 ho'=>?_);have hz:=S.kp.size;have nit:e≠it:=Nat.ne_of_gt (Nat.lt_of_lt_of_le (Heap.lt_size (S.sub hit)) he);exact h { s with heap:=h' } e o' oe fs a0 (S.setI hit liObj_code hk ho' s.toks) hoe hc hd h0 h1 ((put_ne nit).trans (S.kp.fresh he)) (S.kp.freshB he) (Nat.ne_of_gt (Nat.lt_of_lt_of_le S.ns.lt he)) (Nat.ne_of_gt (Nat.lt_of_lt_of_le hz.1 he)) (Nat.ne_of_gt (Nat.lt_of_lt_of_le hz.2 he))
theorem o_iter {Q:Value->Shared->Prop} (S:St B L m g s) (hl:g l=some ol) (x:OL vs ol) (h:∀ s' it,g it=none->St B L m (put g it (liObj l 0)) s'->Q (.ref it) s'):wpAny (model PG w) A (call (.builtin "iter") [.ref l]) Q E s:=by
 refine call_function_entry (by decide +kernel) (by decide +kernel) kdk_entry_iter (kdk_args_iter _) ?_;unfold Builtin.«iter»;refine wpAny_bind (m:=someArgs "iter" 1 2 _) (wpAny_of_eq (a:=[Value.ref l]) (by first|rfl|kernel_rfl!) ?_)
 show wpAny _ _ (pyIter (.ref l) >>= _) _ _ _;refine wpAny_bind (wpAny_pyIter_list (x.isList (S.sub hl)) ?_);exact wpAny_pure ⟨_,rfl,h _ _ (S.kp.fresh (Nat.le_refl _)) (S.alloc (liObj l 0) s.toks)⟩
end
noncomputable def OS (w:World) (S:Str->Bool) (n:Nat) (o:Obj):Prop:=o.SetObjOf (PySem.strKind PG w) S n
theorem OS.code {w:World} {S:Str->Bool} {n:Nat} {o:Obj} (h:OS w S n o):¬ CD o:=by
 obtain ⟨_,es,ep,t,hd,_⟩:=h;rintro ⟨vs,e⟩;rw [hd] at e;cases e
theorem OS.cls {w:World} {S:Str->Bool} {n:Nat} {o:Obj} (h:OS w S n o):o.cls=.type "set":=h.1.1
section
variable {w:World} {B:Bs w} {A:Around} {L it l d:Addr} {m m':Str->Option Value} {g g':PH} {s:Shared} {env:Env} {E:Value->Shared->Prop} {pl:Sem Bool} {ol od os:Obj} {vs:List Value} {i n:Nat} {T:Str->Bool}
theorem o_newSet {Q:Value->Shared->Prop} (S:St B L m g s) (h:∀ s' a o,OS w (λ_=>false) 0 o->g a=none->St B L m (put g a o) s'->Q (.ref a) s'):wpAny (model PG w) A (call (.type "set") []) Q E s:=
 call_set_0 λled=>h _ _ _ (setObjOf_fresh led) (S.kp.fresh (Nat.le_refl _)) (S.alloc _ s.toks)
theorem o_inSet {x:Str} {t:Tok} {Q:Value->Shared->Prop} (S:St B L m g s) (ha:g l=some os) (hs:OS w T n os) (hn:n < scanBound) (h:∀ s',St B L m g s'->Q (.bool (T x)) s'):wpAny (model PG w) A (compareOp .In (.str x t) (.ref l)) Q E s:=
 wpAny_inSet_of (isStr_is x t) rfl (Obj.SetObjOf.setOf hs (S.sub ha) hn) (h _ (S.toks _))
theorem o_addSet {x:Str} {t:Tok} {Q:Value->Shared->Prop} (S:St B L m g s) (ha:g l=some os) (hs:OS w T n os) (hn:n + 1 < scanBound)
  (h:∀ s' o',OS w (λy=>T y || decide (y=x)) (if T x then n else n + 1) o'->St B L m (put g l o') s'->Q .none s'):wpAny (model PG w) A (call (.builtin "set.add") [.ref l,.str x t]) Q E s:=by
 refine call_set_add (isStr_is x t) rfl (Obj.SetObjOf.setOf hs (S.sub ha) (by exact om44 hn)) hn λh' hsb hS'=>?_;obtain ⟨o',ho',hso⟩:=hS'.objOf;exact h _ _ hso (S.set ha hs.code hsb ho' _)
theorem x_while {test:Expr} {body orelse rest:List Stmt} {pos:Pos} {Q:Flow->Shared->Prop}
  (h:∀ R1:Result->Shared->Prop,(∀ r s',(match r with|.ok f=>(match f with|.next=>wpAny (model PG w) A (execs rest env) Q E s'|f=>Q f s')|.error e=>cameBackBy (model PG w) A env E e s')->R1 r s')->codeAny (model PG w) A (.whileLoop test body orelse env) R1 s) :
  wpAny (model PG w) A (execs (.While test body orelse pos :: rest) env) Q E s:=wpAny_execs_cons (wpAny_While (h _ λ_ _ h=>h))
theorem x_del {o i:Expr} {p pos:Pos} {rest:List Stmt} {Q:Flow->Shared->Prop}
  (h:wpAny (model PG w) A (eval o env) (λov s₁=>wpAny (model PG w) A (eval i env) (λiv s₂=>wpAny (model PG w) A (delItem ov iv) (λ_ s₃=>wpAny (model PG w) A (execs rest env) Q E s₃) E s₂) E s₁) E s) :
  wpAny (model PG w) A (execs (.Delete [.Subscript o i p] pos :: rest) env) Q E s:=
 wpAny_execs_cons (wpAny_Delete (wpAny_deleteEach_cons (wpAny_mono (wpAny_delete_Subscript h) (λ_ _ h₁=>wpAny_deleteEach_nil h₁) λ_ _ e=>e)))
theorem o_delD {kvs:List (Str×Value)} {x:Str} {t:Tok} {Q:Unit->Shared->Prop} (S:St B L m g s) (hd:g d=some od) (xd:OD w kvs od) (hz:kvs.length≤1000) (hx:(valueAt kvs x).isSome=true)
  (h:∀ s' o',OD w (without kvs x) o'->St B L m (put g d o') s'->Q () s'):wpAny (model PG w) A (delItem (.ref d) (.str x t)) Q E s:=by
 have sz:=sizeLine_eq;have hD:=xd.dictOf (S.sub hd);unfold delItem
 try with_reducible refine wpAny_holding ?_
 refine wpAny_bind (wpAny_sequenceKey hD.mapOf.typeIs (by decide) ?_)
 refine wpAny_bind (wpAny_callSpecial?_slot (name:=Str.ofString "__delitem__") hD.mapOf.typeIs PySem.F.slot_dict_delitem
  (call_meetsIn PySem.F.slot_dict_delitem hD.mapOf.typeIs PySem.F.entry_dict_delitem (PySem.F.args_dict_delitem_2 _ _) (meets_dict_delitem_pairs (PySem.strKind PG w) d (isStr_is x t)) ⟨kvs,hD,by exact n_t ‹_› (by decide),hx,λh' hmm hs=>?_⟩))
 obtain ⟨o',ho',x''⟩:=OD.of hmm;exact wpAny_pure (h _ _ x'' (S.set hd xd.code hs ho' _))
theorem o_truthyL {Q:Bool->Shared->Prop} (S:St B L m g s) (hl:g l=some ol) (x:OL vs ol) (hz:vs.length≤100000) (h:∀ s',St B L m g s'->Q (!vs.isEmpty) s'):wpAny (model PG w) A (truthy (.ref l)) Q E s:=
 wpAny_truthy_list (x.isList (S.sub hl)) (by rw [List.size_toArray];exact om45 hz) (by
  have:vs.toArray.isEmpty=vs.isEmpty:=by simp
  rw [this];exact h _ (S.toks _))
theorem o_lenL {Q:Value->Shared->Prop} (S:St B L m g s) (hl:g l=some ol) (x:OL vs ol) (hz:vs.length≤100000) (h:∀ s' t,St B L m g s'->Q (.int vs.length t) s'):wpAny (model PG w) A (call (.builtin "len") [.ref l]) Q E s:=
 call_len_list (x.isList (S.sub hl)) (by rw [List.size_toArray];exact om45 hz) (by rw [List.size_toArray];exact h _ _ (S.toks _))
theorem t_sliceFrom {value sl:Expr} {k:Int} {u:Tok} {Q:Value->Shared->Prop} (S:St B L m g s) (hl:s.heap.IsList l vs.toArray) (h0:0≤k) (hz:vs.length≤1000)
  (h:∀ s' D o',OL (vs.drop k.toNat) o'->g D=none->St B L m (put g D o') s'->Q (.ref D) s')
  (hs:subscripted sl false (.ref l) (.ref s.heap.objs.size)=operate [.ref s.heap.objs.size,.ref l] (getItem (.ref l) (.ref s.heap.objs.size)):=by with_unfolding_all rfl)
  (ht:(λr=>letTemporaryGo value (.ref l) r)=λr=>pure ():=by with_unfolding_all rfl) :
  wpAny (model PG w) A (subscriptTail value sl (.ref l) (.ref s.heap.objs.size)) Q E { s with heap:=s.heap.push { cls:=.type "slice",data:=.fields #[.int k u,.none,.none] } }:=by
 have sz:=sizeLine_eq;refine PyProof.Rows.slice_list (items:=vs.toArray) S.fr (S.news (xs:=[L]) (by simp)) hl (.int k u) .none (λh' F' N'=>?_) hs (congrFun ht) (by rw [List.size_toArray];exact n_t ‹_› (by decide));have S':=S.ofNews F' N' (λp hp=>.tail _ hp) s.toks;have hD:=(N' _ (.head _)).1;obtain ⟨j,rfl⟩:=Int.eq_ofNat_of_zero_le h0;rw [slicePick_from'] at hD;have gD:=S.kp.fresh (Nat.le_succ s.heap.objs.size);exact h _ _ _ ⟨0,rfl⟩ gD (S'.takeNew S (Nat.le_succ _) hD)
theorem t_sliceTo {value sl:Expr} {k:Int} {u:Tok} {Q:Value->Shared->Prop} (S:St B L m g s) (hl:s.heap.IsList l vs.toArray) (h0:0≤k) (hz:vs.length≤1000)
  (h:∀ s' D o',OL (vs.take k.toNat) o'->g D=none->St B L m (put g D o') s'->Q (.ref D) s')
  (hs:subscripted sl false (.ref l) (.ref s.heap.objs.size)=operate [.ref s.heap.objs.size,.ref l] (getItem (.ref l) (.ref s.heap.objs.size)):=by with_unfolding_all rfl)
  (ht:(λr=>letTemporaryGo value (.ref l) r)=λr=>pure ():=by with_unfolding_all rfl) :
  wpAny (model PG w) A (subscriptTail value sl (.ref l) (.ref s.heap.objs.size)) Q E { s with heap:=s.heap.push { cls:=.type "slice",data:=.fields #[.none,.int k u,.none] } }:=by
 have sz:=sizeLine_eq;refine PyProof.Rows.slice_list (items:=vs.toArray) S.fr (S.news (xs:=[L]) (by simp)) hl .none (.int k u) (λh' F' N'=>?_) hs (congrFun ht) (by rw [List.size_toArray];exact n_t ‹_› (by decide));have S':=S.ofNews F' N' (λp hp=>.tail _ hp) s.toks;have hD:=(N' _ (.head _)).1;obtain ⟨j,rfl⟩:=Int.eq_ofNat_of_zero_le h0;rw [slicePick_upto'] at hD;have gD:=S.kp.fresh (Nat.le_succ s.heap.objs.size);exact h _ _ _ ⟨0,rfl⟩ gD (S'.takeNew S (Nat.le_succ _) hD)
theorem o_addL {l2:Addr} {ws:List Value} {Q:Value->Shared->Prop} (S:St B L m g s) (hl:s.heap.IsList l vs.toArray) (hl2:s.heap.IsList l2 ws.toArray) (hz:vs.length + ws.length≤1000)
  (h:∀ s' D o',OL (vs ++ ws) o'->g D=none->St B L m (put g D o') s'->Q (.ref D) s'):wpAny (model PG w) A (binaryOp .Add (.ref l) (.ref l2)) Q E s:=by
 have sz:=sizeLine_eq;refine PyProof.Rows.add_lists S.fr (S.news (xs:=[L]) (by simp)) hl hl2 (λh' F' N'=>?_) (by exact n_t ‹_› (by decide));have S':=S.ofNews F' N' (λp hp=>.tail _ hp) s.toks;have hD:=(N' _ (.head _)).1;exact h _ _ _ ⟨0,rfl⟩ (S.kp.fresh (Nat.le_refl _)) (S'.takeNew S (Nat.le_refl _) hD)
end
noncomputable def Ring (ps:List PN) (c:List Str):Prop:=Ex2 λ(q:List Str) (x:Str)=>And4 (c=q ++ [x]) (q.head?=some x) (c.length≤ps.length + 1) (∀ j a b,c[j]?=some a->c[j + 1]?=some b->∃ p∈ps,p.1=a∧p.2.2=[b])
noncomputable def Dead (ps:List PN):Prop:=∃ p∈ps,p.2.2=[]
noncomputable def IdxAre (kvs:List (Str×Value)) (stk:List Str):Prop:=kvs.length=stk.length∧∀ (j:Nat) (y:Str),stk[j]?=some y->∃ t:Tok,kvs[j]?=some (y,Value.int (j:Int) t)
theorem IdxAre.keys {kvs:List (Str×Value)} {stk:List Str} (h:IdxAre kvs stk):kvs.map (·.1)=stk:=by
 refine List.ext_getElem? λj=>?_;rw [List.getElem?_map];cases q:stk[j]? with
 |some y=>obtain ⟨t,e⟩:=h.2 j y q;rw [e];rfl
 |none=>
  have:kvs[j]?=none:=by rw [List.getElem?_eq_none_iff] at q ⊢;rw [h.1];exact q
  rw [this];rfl
theorem IdxAre.push {kvs:List (Str×Value)} {stk:List Str} (h:IdxAre kvs stk) (y:Str) (t:Tok):IdxAre (kvs ++ [(y,.int stk.length t)]) (stk ++ [y]):=by
 refine ⟨by simp [h.1],λj z hz=>?_⟩
 by_cases hj:j < stk.length
 ·rw [List.getElem?_append_left hj] at hz;rw [List.getElem?_append_left (by rw [h.1];exact hj)];exact h.2 j z hz
 ·have hj':j=stk.length:=by
   have:=(List.getElem?_eq_some_iff.mp hz).1;simp at this;exact om49 hj this
  subst hj';rw [List.getElem?_append_right (Nat.le_refl _)] at hz;simp at hz;subst hz;exact ⟨t,by rw [List.getElem?_append_right (by rw [h.1];exact Nat.le_refl _),h.1];simp⟩
theorem IdxAre.pop {kvs:List (Str×Value)} {stk:List Str} {y:Str} (h:IdxAre kvs (stk ++ [y])) (hn:(stk ++ [y]).Nodup):IdxAre (without kvs y) stk:=by
 have hl:kvs.length=stk.length + 1:=by have:=h.1;simpa using this
 obtain ⟨t,ht⟩:=h.2 stk.length y (by simp)
 have e:kvs=kvs.take stk.length ++ [(y,.int stk.length t)]:=by
  conv=>lhs;rw [<-List.take_append_drop stk.length kvs]
  congr 1
  rw [drop_at ht,List.drop_eq_nil_iff.mpr (by exact n_e ‹_›)]
 have hk:=h.keys
 have hny:y∉(kvs.take stk.length).map (·.1):=by
  rw [List.map_take,hk];simp only [List.take_left'];intro hm;rw [List.nodup_append] at hn;exact hn.2.2 _ hm _ (by simp) rfl
 have ew:without kvs y=kvs.take stk.length:=by
  conv=>lhs;rw [e]
  unfold without;rw [List.filter_append]
  have h1:(kvs.take stk.length).filter (λkv=>decide (kv.1≠y))=kvs.take stk.length:=by
   rw [List.filter_eq_self];intro kv hkv;refine decide_eq_true λe=>hny (List.mem_map.mpr ⟨kv,hkv,e⟩)
  rw [h1];simp
 rw [ew];refine ⟨by simp;exact om50 hl,λj z hz=>?_⟩;have hj:=(List.getElem?_eq_some_iff.mp hz).1;obtain ⟨t',ht'⟩:=h.2 j z (by rw [List.getElem?_append_left hj];exact hz);exact ⟨t',by rw [List.getElem?_take,if_pos hj];exact ht'⟩
theorem ne_ty {g:PH} {a b:Addr} {oa ob:Obj} {s1 s2:String} (ha:g a=some oa) (ca:oa.cls=.type s1) (hb:g b=some ob) (cb:ob.cls=.type s2) (h:s1≠s2):a≠b:=by
 rintro rfl;rw [ha] at hb;cases hb;rw [ca] at cb;exact h (Value.type.inj cb)
structure Its (g g':PH) (nodes:List Node) (stk:List Str) (mi:List (Addr×Addr)) (ct:Nat):Prop where
 m:mi.length=stk.length
 at_:∀ j p,mi[j]?=some p->∃ nd∈nodes,stk[j]?=some nd.n∧g' p.1=some (mwObj p.2)∧g' p.2=some (liObj nd.sl (if j + 1 < mi.length then 1 else ct))∧g p.1=none∧g p.2=none
 nd:(mi.map (·.2)).Nodup
theorem Its.put {g g':PH} {nodes:List Node} {stk:List Str} {mi:List (Addr×Addr)} {ct:Nat} (I:Its g g' nodes stk mi ct) {a:Addr} {oa o':Obj} {s1:String} (ha:g' a=some oa) (hc:oa.cls=.type s1) (h1:s1≠"method-wrapper") (h2:s1≠"list_iterator"):Its g (Mine.put g' a o') nodes stk mi ct:=by
 refine ⟨I.m,λj p hp=>?_,I.nd⟩;obtain ⟨nd,k1,k2,k3,k4,k5⟩:=I.at_ j p hp;exact ⟨nd,k1,k2,(put_ne (ne_ty k3 rfl ha hc (Ne.symm h1))).trans k3,(put_ne (ne_ty k4 rfl ha hc (Ne.symm h2))).trans k4,k5⟩
theorem Its.sub {g g' g'':PH} {nodes:List Node} {stk:List Str} {mi:List (Addr×Addr)} {ct:Nat} (I:Its g g' nodes stk mi ct) (k:Sub g' g''):Its g g'' nodes stk mi ct:=by
 refine ⟨I.m,λj p hp=>?_,I.nd⟩;obtain ⟨nd,k1,k2,k3,k4,k5⟩:=I.at_ j p hp;exact ⟨nd,k1,k2,k _ _ k3,k _ _ k4,k5⟩
theorem Its.push {g g':PH} {nodes:List Node} {stk:List Str} {mi:List (Addr×Addr)} (I:Its g g' nodes stk mi 1) {nd:Node} {M it:Addr} (hm:nd∈nodes) (h1:g' M=some (mwObj it)) (h2:g' it=some (liObj nd.sl 0)) (h3:g M=none) (h4:g it=none) (hn:it∉mi.map (·.2)):Its g g' nodes (stk ++ [nd.n]) (mi ++ [(M,it)]) 0:=by
 refine ⟨by simp [I.m],λj p hp=>?_,?_⟩
 ·by_cases hj:j < mi.length
  ·rw [List.getElem?_append_left hj] at hp;obtain ⟨nd',k1,k2,k3,k4,k5⟩:=I.at_ j p hp;refine ⟨nd',k1,by rw [List.getElem?_append_left (by rw [<-I.m];exact hj)];exact k2,k3,?_,k5⟩;rw [List.length_append,if_pos (by simp;assumption)];rw [k4];congr 2;split <;> rfl
  ·have hj':j=mi.length:=by
    have:=(List.getElem?_eq_some_iff.mp hp).1;simp at this;exact om49 hj this
   subst hj';rw [List.getElem?_append_right (Nat.le_refl _)] at hp;simp at hp;subst hp;exact ⟨nd,hm,by rw [I.m];simp,h1,by rw [if_neg (by simp)];exact h2,h3,h4⟩
 ·rw [List.map_append,List.nodup_append];exact ⟨I.nd,by simp,λa ha b hb=>by simp at hb;subst hb;rintro rfl;exact hn ha⟩
theorem Its.pop {g g':PH} {nodes:List Node} {stk:List Str} {y:Str} {mi:List (Addr×Addr)} {p:Addr×Addr} {ct:Nat} (I:Its g g' nodes (stk ++ [y]) (mi ++ [p]) ct) {o':Obj}:Its g (Mine.put g' p.2 o') nodes stk mi 1:=by
 have hm:mi.length=stk.length:=by have:=I.m;simpa using this
 have hn:=I.nd;rw [List.map_append,List.nodup_append] at hn;refine ⟨hm,λj q hq=>?_,hn.1⟩;have hj:=(List.getElem?_eq_some_iff.mp hq).1;obtain ⟨nd,k1,k2,k3,k4,k5⟩:=I.at_ j q (by rw [List.getElem?_append_left hj];exact hq);obtain ⟨ndp,l1,l2,l3,l4,l5⟩:=I.at_ mi.length p (by simp);rw [List.getElem?_append_left (by exact Nat.lt_of_lt_of_eq ‹_› ‹_›)] at k2;have ne:q.2≠p.2:=λe=>hn.2.2 q.2 (List.mem_map.mpr ⟨q,List.mem_of_getElem? hq,rfl⟩) p.2 (by simp) e;refine ⟨nd,k1,k2,(put_ne (ne_ty k3 rfl l4 rfl (by decide))).trans k3,?_,k5⟩;rw [put_ne ne,k4]
 congr 2
 rw [if_pos (by simp;assumption)]
 split <;> rfl
theorem Its.draw {g g':PH} {nodes:List Node} {stk:List Str} {mi:List (Addr×Addr)} {p:Addr×Addr} {nd:Node} (I:Its g g' nodes stk (mi ++ [p]) 0) (hs:stk[mi.length]?=some nd.n) (hN:(nodes.map (·.n)).Nodup) (hm:nd∈nodes):Its g (Mine.put g' p.2 (liObj nd.sl 1)) nodes stk (mi ++ [p]) 1:=by
 have hn:=I.nd;rw [List.map_append,List.nodup_append] at hn;refine ⟨I.m,λj q hq=>?_,I.nd⟩;obtain ⟨nd',k1,k2,k3,k4,k5⟩:=I.at_ j q hq;obtain ⟨ndp,l1,l2,l3,l4,l5⟩:=I.at_ mi.length p (by simp)
 by_cases hj:j < mi.length
 ·rw [List.getElem?_append_left hj] at hq;have ne:q.2≠p.2:=λe=>hn.2.2 q.2 (List.mem_map.mpr ⟨q,List.mem_of_getElem? hq,rfl⟩) p.2 (by simp) e;refine ⟨nd',k1,k2,(put_ne (ne_ty k3 rfl l4 rfl (by decide))).trans k3,?_,k5⟩;rw [put_ne ne,k4,if_pos (by simp;assumption),if_pos (by simp;assumption)]
 ·have hj':j=mi.length:=by
   have:=(List.getElem?_eq_some_iff.mp hq).1;simp at this;exact om49 hj this
  subst hj';rw [List.getElem?_append_right (Nat.le_refl _)] at hq;simp at hq;subst hq;refine ⟨nd,hm,hs,(put_ne (ne_ty k3 rfl l4 rfl (by decide))).trans k3,?_,k5⟩;rw [put_self,if_neg (by simp)]
theorem strs_snocI {vs:List Value} {ys:List Str} {y:Str} (h:StrsAre vs (ys ++ [y])):Ex2 λvi t=>vs=vi ++ [.str y t]∧StrsAre vi ys:=by
 induction ys generalizing vs with
 |nil=>
  cases h with
  |cons _ t h'=>cases h';exact ⟨[],t,rfl,.nil⟩
 |cons z r ih=>
  cases h with
  |cons _ t h'=>
   obtain ⟨vi,t',rfl,h2⟩:=ih h';exact ⟨_ :: vi,t',rfl,.cons _ _ h2⟩
noncomputable def unseen (nodes:List Node) (T:Str->Bool):Nat:=(nodes.filter λnd=>!T nd.n).length
theorem unseen_add {nodes:List Node} {T:Str->Bool} {y:Str} (hy:y∈nodes.map (·.n)) (hT:T y=false):unseen nodes (λz=>T z || decide (z=y)) + 1≤unseen nodes T:=by
 unfold unseen
 induction nodes with
 |nil=>simp at hy
 |cons nd r ih=>
  rw [List.filter_cons,List.filter_cons]
  by_cases q:nd.n=y
  ·have h1:(!(T nd.n || decide (nd.n=y)))=false:=by simp [q]
   have h2:(!T nd.n)=true:=by rw [q,hT];rfl
   rw [h1,h2];simp only [Bool.false_eq_true,if_false,if_true,List.length_cons]
   have mono:∀ l:List Node,(l.filter λnd=>!(T nd.n || decide (nd.n=y))).length≤(l.filter λnd=>!T nd.n).length:=λl=>by
    induction l with
    |nil=>simp
    |cons a l ih2=>
     rw [List.filter_cons,List.filter_cons];cases h3:T a.n with
     |true=>simpa using ih2
     |false=>
      have e2:(!T a.n)=true:=by rw [h3];rfl
      by_cases h4:a.n=y
      ·have e1:(!(false || decide (a.n=y)))=false:=by simp [h4]
       simp only [e1,Bool.not_false,Bool.false_eq_true,if_false,if_true,List.length_cons];exact Nat.le_succ_of_le ‹_›
      ·have e1:(!(false || decide (a.n=y)))=true:=by simp [h4]
       simp only [e1,Bool.not_false,if_true,List.length_cons];exact Nat.succ_le_succ ‹_›
   have:=mono r;show (r.filter λnd=>!(T nd.n || decide (nd.n=y))).length + 1≤(r.filter λnd=>!T nd.n).length + 1
   exact Nat.succ_le_succ ‹_›
  ·have hr:y∈r.map (·.n):=by
    rw [List.map_cons,List.mem_cons] at hy;exact hy.resolve_left λe=>q e.symm
   have ih:=ih hr;change (r.filter λnd=>!(T nd.n || decide (nd.n=y))).length + 1≤(r.filter λnd=>!T nd.n).length at ih
   have e:(!(T nd.n || decide (nd.n=y)))=!T nd.n:=by simp [q]
   rw [e]
   split
   ·simp only [List.length_cons];exact Nat.succ_le_succ ‹_›
   ·exact ih
structure FC (w:World) (g g':PH) (nodes:List Node) (lk li ls ld:Addr) (stk:List Str) (mi:List (Addr×Addr)) (ct:Nat) (T:Str->Bool) (n:Nat):Prop where
 sub:Sub g g'
 k:SL g' lk stk
 i:∃ o,g' li=some o∧OL (mi.map λp=>Value.ref p.1) o
 s:∃ o,g' ls=some o∧OS w T n o
 d:Ex2 λo kvs=>And3 (g' ld=some o) (OD w kvs o) (IdxAre kvs stk)
 its:Its g g' nodes stk mi ct
 ne:lk≠li
 z:n + unseen nodes T≤nodes.length
 tn:∀ y,T y=true->y∈nodes.map (·.n)
 st:∀ y∈stk,T y=true
 ch:∀ (j:Nat) a b,stk[j]?=some a->stk[j + 1]?=some b->∃ nd∈nodes,nd.n=a∧nd.succ=[b]
 fr:g lk=none∧g li=none∧g ls=none∧g ld=none
section
variable {w:World} {B:Bs w} {A:Around} {L:Addr} {m m':Str->Option Value} {F₀ g g':PH} {s:Shared} {env:Env} {E:Value->Shared->Prop} {pl:Sem Bool} {x sdx d lk li ls ld:Addr} {nodes:List Node} {rv:Value} {po fi:Int} {stk:List Str} {mi:List (Addr×Addr)} {ct n:Nat} {T:Str->Bool}
theorem FC.nodup (C:FC w g g' nodes lk li ls ld stk mi ct T n):stk.Nodup:=by
 obtain ⟨o,kvs,_,⟨_,es,ep,_,_,_,hn⟩,hi⟩:=C.d;rw [hi.keys] at hn;exact hn
theorem FC.len (C:FC w g g' nodes lk li ls ld stk mi ct T n):stk.length≤nodes.length:=by
 have h1:=C.nodup;have h2:∀ y∈stk,y∈nodes.map (·.n):=λy hy=>C.tn y (C.st y hy);have:=h1.length_le_of_subset h2
 simpa using this
theorem call_fnF {fl:List Env} {k:Nat} {R:Result->Shared->Prop} {name qual:Str} {params:Arguments} {body:List Stmt} {scope:Scope} {dV kV doc pm cdv ct oc:Value} {an od:Option Addr} {osl:Array (Option Value)} {f:Addr} {args:Args} {binds:List (Str×Value)}
  (K:Kp B g s) (hr:Rm A (k + 1)) (hh:A.handled=none) (hF:A.frames=some fl) (ho:(HF w).lookup f=some ⟨oc,od,.func (fnX name qual params body scope [] dV kV doc pm an cdv ct),osl⟩) (hcd:codeIn (HF w) cdv qual=true)
  (hbind:BindsTo s (fnX name qual params body scope [] dV kV doc pm an cdv ct) args binds) (hloc:(binds.all λx=>decide (scope.names.lookup x.1=some .local))=true)
  (h:∀ A' L s' E',Rm A' k->A'.handled=none->A'.frames=some (envX qual scope L f cdv [] :: fl)->St B L (λy=>binds.reverse.lookup y) g s' ->
   ∀ R':Flow->Shared->Prop,(∀ fl s',R (.ok (.ret (match fl with|.ret v=>v|_=>.none))) s'->R' fl s')->wpAny (model PG w) A' (execs body (envX qual scope L f cdv [])) R' E' s')
  (hcell:∀ x∈scope.names,x.2≠.cell:=by decide) (hco:scope.isCoroutine=false:=by rfl) (hgen:scope.isGenerator=false:=by rfl) (hk:scope.kind=.function:=by rfl):codeAny (model PG w) A (.call (.ref f) args) R s:=
 call_fn K hr ho hcd hbind hloc (λL s' E' S=>h _ L s' E' hr.deeper hh (Around.frames_deeper hF) S _ λ_ _ h=>h) hcell hco hgen hk
theorem o_negI {Q:Value->Shared->Prop} {a:Int} {t:Tok} (S:St B L m g s) (h:∀ s' tk,St B L m g s'->Q (.int (-a) tk) s'):wpAny (model PG w) A (unaryOp .USub (.int a t)) Q E s:=PyProof.Rows.neg_int (h _ _ (S.toks _))
theorem FC.retop (C:FC w g g' nodes lk li ls ld [] mi ct T n) (ct':Nat):FC w g g' nodes lk li ls ld [] mi ct' T n:=by
 refine ⟨C.sub,C.k,C.i,C.s,C.d,⟨C.its.m,λj p hp=>?_,C.its.nd⟩,C.ne,C.z,C.tn,C.st,C.ch,C.fr⟩;have h0:mi.length=0:=C.its.m;have:=(List.getElem?_eq_some_iff.mp hp).1
 omega
theorem call_fnFH {fl:List Env} {k:Nat} {R:Result->Shared->Prop} {name qual:Str} {params:Arguments} {body:List Stmt} {scope:Scope} {dV kV doc pm cdv ct oc:Value} {an od:Option Addr} {osl:Array (Option Value)} {f:Addr} {args:Args} {binds:List (Str×Value)} (Hd:Option Value->Prop)
  (K:Kp B g s) (hr:Rm A (k + 1)) (hh:Hd A.handled) (hF:A.frames=some fl) (ho:(HF w).lookup f=some ⟨oc,od,.func (fnX name qual params body scope [] dV kV doc pm an cdv ct),osl⟩) (hcd:codeIn (HF w) cdv qual=true)
  (hbind:BindsTo s (fnX name qual params body scope [] dV kV doc pm an cdv ct) args binds) (hloc:(binds.all λx=>decide (scope.names.lookup x.1=some .local))=true)
  (h:∀ A' L s' E',Rm A' k->Hd A'.handled->A'.frames=some (envX qual scope L f cdv [] :: fl)->St B L (λy=>binds.reverse.lookup y) g s' ->
   ∀ R':Flow->Shared->Prop,(∀ fl s',R (.ok (.ret (match fl with|.ret v=>v|_=>.none))) s'->R' fl s')->wpAny (model PG w) A' (execs body (envX qual scope L f cdv [])) R' E' s')
  (hcell:∀ x∈scope.names,x.2≠.cell:=by decide) (hco:scope.isCoroutine=false:=by rfl) (hgen:scope.isGenerator=false:=by rfl) (hk:scope.kind=.function:=by rfl):codeAny (model PG w) A (.call (.ref f) args) R s:=
 call_fn K hr ho hcd hbind hloc (λL s' E' S=>h _ L s' E' hr.deeper hh (Around.frames_deeper hF) S _ λ_ _ h=>h) hcell hco hgen hk
theorem for_dictH {d:Addr} {kvs:List (Str×Value)} {o:Obj} {target:Expr} {body orelse:List Stmt} {R:Result->Shared->Prop} (S:St B env.locals m g s) (hsys:(d == sysModules)=false) (hd:g d=some o) (x:OD w kvs o)
  (I:Nat->(Str->Option Value)->PH->Prop) (D:Option Value->(Str->Option Value)->PH->Prop) (hI:I 0 m g) (hH:A.handled=none∨(0 < kvs.length∧∀ m g,¬ I 1 m g))
  (hkeep:∀ i m' g',I i m' g'->∀ b∈[d],∀ o,g b=some o->g' b=some o)
  (turn:∀ i v m g s (B':Bs w) E',Le B B'->i < kvs.length->(Ex3 λk x t=>kvs[i]?=some (k,x)∧v=.str k t)->I i m g->St B' env.locals m g s ->
   ∀ R1:Flow->Shared->Prop,(∀ f s,TurnEnd B' env.locals (I (i + 1)) D f s->R1 f s)->wpAny (model PG w) A (assign target env v) (λ_ s=>wpAny (model PG w) A (execs body env) R1 E' s) E' s)
  (done:∀ m g s E',I kvs.length m g->St B env.locals m g s->∀ R1:Flow->Shared->Prop,(∀ f s,R (.ok f) s->R1 f s)->wpAny (model PG w) A (execs orelse env) R1 E' s)
  (out:∀ v m g s,D v m g->St B env.locals m g s->R (.ok (match v with|none=>.next|some v=>.ret v)) s)
  (hlet:(λit v=>letOwnedTupleGo target (.ref it) v)=λit v=>pure ():=by rfl) :
  wpAny (model PG w) A (pyIter (.ref d)) (λit s₂=>codeAny (model PG w) A (.forLoop target it body orelse env) R s₂) E s:=by
 rcases hH with hh|⟨hpos,hno⟩
 ·exact for_O (O_dict S hh hsys (.inl hd) x) I D hI hkeep turn done out hlet
 ·have hdd:=x.dictOf (S.sub hd)
  obtain ⟨ep,hdd⟩:∃ ep,s.heap.DictAt (strKind PG w) d kvs ep:=by
   obtain ⟨o,es,ep,e,a,r1,r2⟩:=hdd;exact ⟨ep,o,es,e,a,r1,r2⟩
  refine wpAny_pyIter_dict hsys hdd ?_;have a:=Away.nil.push S { cls:=.type "dict_keyiterator",data:=.fields #[.ref d,.int (0:Nat) 0,.int (kvs.length:Nat) 0,.int ep 0] };have S₂:=S.push { cls:=.type "dict_keyiterator",data:=.fields #[.ref d,.int (0:Nat) 0,.int (kvs.length:Nat) 0,.int ep 0] } s.toks;have hit:(s.heap.push { cls:=.type "dict_keyiterator",data:=.fields #[.ref d,.int (0:Nat) 0,.int (kvs.length:Nat) 0,.int ep 0] }).IsKeyIter s.heap.objs.size d 0 kvs.length ep:=⟨_,Heap.get?_push_size _ rfl,rfl,rfl⟩;have hdd₂:(s.heap.push { cls:=.type "dict_keyiterator",data:=.fields #[.ref d,.int (0:Nat) 0,.int (kvs.length:Nat) 0,.int ep 0] }).DictAt (strKind PG w) d kvs ep:=hdd.at' λo e=>Heap.get?_push_of_some _ e;obtain ⟨kv,hkv⟩:∃ kv,kvs[0]?=some kv:=⟨_,List.getElem?_eq_getElem hpos⟩;refine codeAny_forLoop (λk s'=>k=1∧s'={ s with heap:=s.heap.push { cls:=.type "dict_keyiterator",data:=.fields #[.ref d,.int (0:Nat) 0,.int (kvs.length:Nat) 0,.int ep 0] } }) ?_ 1 ⟨rfl,rfl⟩ (congrFun (congrFun hlet _));rintro k s' ⟨rfl,rfl⟩;refine wpAny_pyNext_dict_item hit hdd₂ hkv λkey h' hkey hit' hs'=>?_;obtain ⟨t,rfl⟩:=Value.isStrOf_shape hkey;have S₁:=S₂.moved a (λb o hb e=>hs'.extBut b o (by simpa using hb) e) s.toks;refine wpAny_mono (turn 0 _ m g _ B _ (λ_ _ e=>e) hpos ⟨kv.1,kv.2,t,hkv,rfl⟩ hI S₁ _ λ_ _ h=>h) (λ_ s₁ h₁=>wpAny_mono h₁ (λf s₂ h₂=>?_) λ_ _ e=>e) λ_ _ e=>e;obtain ⟨m',g',S',h₂⟩:=h₂;cases f with
  |next=>exact absurd h₂ (hno _ _)
  |cont=>exact absurd h₂ (hno _ _)
  |brk=>exact out none m' g' s₂ h₂ S'
  |ret v=>exact out (some v) m' g' s₂ h₂ S'
theorem FC.push {g₁:PH} {os' oi' od' ok':Obj} {vk':List Value} {kvs':List (Str×Value)} {M it:Addr} {nd:Node} (C:FC w g g' nodes lk li ls ld stk mi 1 T n) (hm:nd∈nodes) (hT:T nd.n=false)
  (hc:stk=[]∨∃ a∈nodes,stk.getLast?=some a.n∧a.succ=[nd.n])
  (hs:OS w (λz=>T z || decide (z=nd.n)) (n + 1) os') (hit:put g' ls os' it=none) (hM:put (put g' ls os') it (liObj nd.sl 0) M=none) (hi:OL ((mi ++ [(M,it)]).map λp=>Value.ref p.1) oi') (hd:OD w kvs' od') (hdi:IdxAre kvs' (stk ++ [nd.n])) (hk:OL vk' ok') (hk':StrsAre vk' (stk ++ [nd.n]))
  (eg:g₁=put (put (put (put (put (put g' ls os') it (liObj nd.sl 0)) M (mwObj it)) li oi') ld od') lk ok'):FC w g g₁ nodes lk li ls ld (stk ++ [nd.n]) (mi ++ [(M,it)]) 0 (λz=>T z || decide (z=nd.n)) (n + 1):=by
 obtain ⟨ok,vk,k1,k2,k3⟩:=C.k;obtain ⟨oi,i1,i2⟩:=C.i;obtain ⟨os,s1,s2⟩:=C.s;obtain ⟨od,kvs,d1,d2,d3⟩:=C.d;have tl:∀ {a b:String},a≠b->a≠b:=λh=>h;have sk:ls≠lk:=ne_ty s1 s2.cls k1 k2.cls (by decide);have si:ls≠li:=ne_ty s1 s2.cls i1 i2.cls (by decide);have sd:ls≠ld:=ne_ty s1 s2.cls d1 d2.cls (by decide);have kd:lk≠ld:=ne_ty k1 k2.cls d1 d2.cls (by decide);have id_:li≠ld:=ne_ty i1 i2.cls d1 d2.cls (by decide)
 have hit':g' it=none:=by
  have:it≠ls:=by rintro rfl;rw [put_self] at hit;cases hit
  rw [put_ne this] at hit;exact hit
 have hM':M≠it∧M≠ls∧g' M=none:=by
  have h1:M≠it:=by rintro rfl;rw [put_self] at hM;cases hM
  rw [put_ne h1] at hM;have h2:M≠ls:=by rintro rfl;rw [put_self] at hM;cases hM
  rw [put_ne h2] at hM;exact ⟨h1,h2,hM⟩
 have ni:∀ {a o},g' a=some o->a≠it:=λe=>ne_none e hit';have nM:∀ {a o},g' a=some o->a≠M:=λe=>ne_none e hM'.2.2
 have gsub:Sub g g₁:=λb o e=>by
  have e':=C.sub _ _ e;rw [eg,put_ne (ne_none e C.fr.1),put_ne (ne_none e C.fr.2.2.2),put_ne (ne_none e C.fr.2.1),put_ne (nM e'),put_ne (ni e'),put_ne (ne_none e C.fr.2.2.1)];exact e'
 have itg:g it=none:=none_sub hit' C.sub;have Mg:g M=none:=none_sub hM'.2.2 C.sub;have I1:=C.its.put (o':=os') s1 s2.cls (by decide) (by decide);have I2:=I1.sub (Sub.put (o:=liObj nd.sl 0) hit);have I3:=I2.sub (Sub.put (o:=mwObj it) hM)
 have itn:it∉mi.map (·.2):=λh=>by
  obtain ⟨p,hp,e⟩:=List.mem_map.mp h;obtain ⟨j,hj⟩:=List.getElem?_of_mem hp;obtain ⟨_,_,_,_,q,_⟩:=C.its.at_ j p hj;rw [e,hit'] at q;cases q
 have e1:put (put (put g' ls os') it (liObj nd.sl 0)) M (mwObj it) M=some (mwObj it):=put_self ..;have e2:put (put (put g' ls os') it (liObj nd.sl 0)) M (mwObj it) it=some (liObj nd.sl 0):=(put_ne hM'.1.symm).trans (put_self ..);have I4:=I3.push hm e1 e2 Mg itg itn;have li3:put (put (put g' ls os') it (liObj nd.sl 0)) M (mwObj it) li=some oi:=by rw [put_ne (nM i1),put_ne (ni i1),put_ne si.symm];exact i1
 have I5:=I4.put (o':=oi') li3 i2.cls (by decide) (by decide);have ld4:put (put (put (put g' ls os') it (liObj nd.sl 0)) M (mwObj it)) li oi' ld=some od:=by rw [put_ne id_.symm,put_ne (nM d1),put_ne (ni d1),put_ne sd.symm];exact d1
 have I6:=I5.put (o':=od') ld4 d2.cls (by decide) (by decide);have lk5:put (put (put (put (put g' ls os') it (liObj nd.sl 0)) M (mwObj it)) li oi') ld od' lk=some ok:=by rw [put_ne kd,put_ne C.ne,put_ne (nM k1),put_ne (ni k1),put_ne sk.symm];exact k1
 have I7:=I6.put (o':=ok') lk5 k2.cls (by decide) (by decide);rw [<-eg] at I7;have nin:nd.n∈nodes.map (·.n):=List.mem_map.mpr ⟨nd,hm,rfl⟩
 refine ⟨gsub,⟨ok',vk',by rw [eg];exact put_self ..,hk,hk'⟩,⟨oi',by rw [eg,put_ne C.ne.symm,put_ne id_];exact put_self ..,hi⟩,⟨os',by rw [eg,put_ne sk,put_ne sd,put_ne si,put_ne (nM s1),put_ne (ni s1)];exact put_self ..,hs⟩,
  ⟨od',kvs',by rw [eg,put_ne kd.symm];exact put_self ..,hd,hdi⟩,I7,C.ne,?_,λy hy=>?_,λy hy=>?_,λj a b ha hb=>?_,C.fr⟩
 ·have:=unseen_add nin hT;have:=C.z;exact om51 ‹_› this
 ·rw [Bool.or_eq_true,decide_eq_true_eq] at hy;rcases hy with hy|rfl
  ·exact C.tn y hy
  ·exact nin
 ·rw [Bool.or_eq_true,decide_eq_true_eq];rcases List.mem_append.mp hy with hy|hy
  ·exact .inl (C.st y hy)
  ·exact .inr (List.mem_singleton.mp hy)
 ·by_cases hj:j + 1 < stk.length
  ·rw [List.getElem?_append_left (by exact om44 hj)] at ha;rw [List.getElem?_append_left hj] at hb;exact C.ch j a b ha hb
  ·have hj':j + 1=stk.length:=by
    have:=(List.getElem?_eq_some_iff.mp hb).1;simp at this;exact om52 hj this
   rw [hj',List.getElem?_append_right (Nat.le_refl _)] at hb;simp at hb;subst hb;rw [List.getElem?_append_left (by exact om53 hj')] at ha;rcases hc with rfl|⟨na,h1,h2,h3⟩
   ·simp at hj'
   ·rw [List.getLast?_eq_getElem?] at h2;rw [show stk.length - 1=j from by exact om54 hj',ha] at h2;cases h2;exact ⟨na,h1,rfl,h3⟩
theorem FC.pop {y:Str} {p:Addr×Addr} {o₁ oi' od' ok':Obj} {vk':List Value} (C:FC w g g' nodes lk li ls ld (stk ++ [y]) (mi ++ [p]) ct T n) {g₁:PH} {kvs:List (Str×Value)} {od:Obj} (hk:OL vk' ok') (hk':StrsAre vk' stk) (d1:g' ld=some od) (d2:OD w kvs od) (d3:IdxAre kvs (stk ++ [y])) (hd:OD w (without kvs y) od') (hi:OL (mi.map λp=>Value.ref p.1) oi')
  (eg:g₁=put (put (put (put g' p.2 o₁) lk ok') ld od') li oi'):FC w g g₁ nodes lk li ls ld stk mi 1 T n:=by
 obtain ⟨ok,vk,k1,k2,k3⟩:=C.k;obtain ⟨oi,i1,i2⟩:=C.i;obtain ⟨os,s1,s2⟩:=C.s;obtain ⟨ndp,l1,l2,l3,l4,l5,l6⟩:=C.its.at_ mi.length p (by simp);have sk:ls≠lk:=ne_ty s1 s2.cls k1 k2.cls (by decide);have si:ls≠li:=ne_ty s1 s2.cls i1 i2.cls (by decide);have sd:ls≠ld:=ne_ty s1 s2.cls d1 d2.cls (by decide);have kd:lk≠ld:=ne_ty k1 k2.cls d1 d2.cls (by decide);have id_:li≠ld:=ne_ty i1 i2.cls d1 d2.cls (by decide);have pk:lk≠p.2:=ne_ty k1 k2.cls l4 rfl (by decide);have pd:ld≠p.2:=ne_ty d1 d2.cls l4 rfl (by decide);have pi:li≠p.2:=ne_ty i1 i2.cls l4 rfl (by decide);have ps:ls≠p.2:=ne_ty s1 s2.cls l4 rfl (by decide);have I1:=C.its.pop (o':=o₁);have I2:=I1.put (o':=ok') ((put_ne pk).trans k1) k2.cls (by decide) (by decide);have I3:=I2.put (o':=od') ((put_ne kd.symm).trans ((put_ne pd).trans d1)) d2.cls (by decide) (by decide);have I4:=I3.put (o':=oi') ((put_ne id_).trans ((put_ne C.ne.symm).trans ((put_ne pi).trans i1))) i2.cls (by decide) (by decide);rw [<-eg] at I4
 refine ⟨λb o e=>?_,⟨ok',vk',by rw [eg,put_ne C.ne,put_ne kd];exact put_self ..,hk,hk'⟩,⟨oi',by rw [eg];exact put_self ..,hi⟩,⟨os,by rw [eg,put_ne si,put_ne sd,put_ne sk,put_ne ps];exact s1,s2⟩,
  ⟨od',_,by rw [eg,put_ne id_.symm];exact put_self ..,hd,d3.pop C.nodup⟩,I4,C.ne,C.z,C.tn,λz hz=>C.st z (List.mem_append_left _ hz),λj a b ha hb=>?_,C.fr⟩
 ·rw [eg,put_ne (ne_none e C.fr.2.1),put_ne (ne_none e C.fr.2.2.2),put_ne (ne_none e C.fr.1),put_ne (ne_none e l6)];exact C.sub _ _ e
 ·have hj:=(List.getElem?_eq_some_iff.mp hb).1;exact C.ch j a b (by rw [List.getElem?_append_left (by exact om44 hj)];exact ha) (by rw [List.getElem?_append_left hj];exact hb)
theorem valueAt_none {kvs:List (Str×Value)} {y:Str} (h:y∉kvs.map (·.1)):valueAt kvs y=none:=by
 unfold valueAt;rw [List.find?_eq_none.mpr]
 ·rfl
 ·intro kv hkv e;exact h (List.mem_map.mpr ⟨kv,hkv,of_decide_eq_true e⟩)
theorem strs_drop {vs:List Value} {ss:List Str} (h:StrsAre vs ss):∀ j:Nat,StrsAre (vs.drop j) (ss.drop j):=by
 induction h with
 |nil=>intro j;simpa using StrsAre.nil
 |cons y t h' ih=>
  intro j;cases j with
  |zero=>exact .cons _ _ h'
  |succ j=>exact ih j
theorem ring_of (hch:∀ (j:Nat) a b,stk[j]?=some a->stk[j + 1]?=some b->∃ nd∈nodes,nd.n=a∧nd.succ=[b]) {j:Nat} {y:Str} (hj:stk[j]?=some y) {a:Node} (ha:a∈nodes) (hl:stk.getLast?=some a.n) (hs:a.succ=[y]) (hz:stk.length≤nodes.length):Ring (nodes.map Node.pn) (stk.drop j ++ [y]):=by
 have hjl:=(List.getElem?_eq_some_iff.mp hj).1;refine ⟨stk.drop j,y,rfl,by rw [List.head?_drop];exact hj,by rw [List.length_append,List.length_drop,List.length_map];simp;exact om55 hz,λi u v hu hv=>?_⟩;have hlen:(stk.drop j).length=stk.length - j:=List.length_drop
 by_cases hi:i + 1 < (stk.drop j).length
 ·rw [List.getElem?_append_left (by exact om56 hlen hi),List.getElem?_drop] at hu;rw [List.getElem?_append_left hi,List.getElem?_drop] at hv;obtain ⟨nd,h1,h2,h3⟩:=hch (j + i) u v hu (by rw [Nat.add_assoc];exact hv);exact ⟨nd.pn,List.mem_map.mpr ⟨nd,h1,rfl⟩,h2,h3⟩
 ·have hi':i + 1=(stk.drop j).length:=by
   have:=(List.getElem?_eq_some_iff.mp hv).1;simp at this;exact om57 hlen hi this
  rw [hi',List.getElem?_append_right (Nat.le_refl _)] at hv;simp at hv;subst hv;rw [List.getElem?_append_left (by exact om58 hlen hi'),List.getElem?_drop] at hu;rw [List.getLast?_eq_getElem?] at hl;rw [show stk.length - 1=j + i from by exact om59 hjl hlen hi',hu] at hl;cases hl;exact ⟨a.pn,List.mem_map.mpr ⟨a,ha,rfl⟩,rfl,hs⟩
theorem x_ifCut {test:Expr} {body orelse:List Stmt} {pos:Pos} {rest:List Stmt} {Q:Flow->Shared->Prop} (MID:Shared->Prop)
  (h:∀ R1:Flow->Shared->Prop,(∀ f s',(match f with|.next=>MID s'|f=>Q f s')->R1 f s')->wpAny (model PG w) A (PySem.isTrue test env (eval test env)) (λb s₂=>wpAny (model PG w) A (execs (if b then body else orelse) env) R1 E s₂) E s)
  (hrest:∀ s',MID s'->wpAny (model PG w) A (execs rest env) Q E s'):wpAny (model PG w) A (execs (.If test body orelse pos :: rest) env) Q E s:=
 x_if λR2 hR2=>wpAny_mono (h _ λ_ _ h=>h) (λb s₂ h₂=>wpAny_mono h₂ (λf s₃ h₃=>hR2 f s₃ (by
  cases f with
  |next=>exact hrest _ h₃
  |_=>exact h₃)) λ_ _ e=>e) λ_ _ e=>e
theorem while_I {test:Expr} {body orelse:List Stmt} {R:Result->Shared->Prop} (I:Nat->Shared->Prop)
  (turn:∀ n s E',I n s->∀ R1:Flow->Shared->Prop,(∀ f s₃,(match f with|.next|.cont=>∃ m,m < n∧I m s₃|.brk=>R (.ok .next) s₃|.ret v=>R (.ok (.ret v)) s₃)->R1 f s₃)->∀ R2:Flow->Shared->Prop,(∀ f s,R (.ok f) s->R2 f s) ->
   wpAny (model PG w) A (PySem.isTrue test env (eval test env)) (λb s₂=>if b then wpAny (model PG w) A (execs body env) R1 E' s₂ else wpAny (model PG w) A (execs orelse env) R2 E' s₂) E' s)
  (n:Nat) (h:I n s):codeAny (model PG w) A (.whileLoop test body orelse env) R s:=
 codeAny_whileLoop I (λn s hI=>turn n s _ hI _ (λ_ _ h=>h) _ (λ_ _ h=>h)) n h
theorem FC.draw {p:Addr×Addr} {nd:Node} (C:FC w g g' nodes lk li ls ld stk (mi ++ [p]) 0 T n) (hs:stk[mi.length]?=some nd.n) (hN:(nodes.map (·.n)).Nodup) (hm:nd∈nodes):FC w g (put g' p.2 (liObj nd.sl 1)) nodes lk li ls ld stk (mi ++ [p]) 1 T n:=by
 obtain ⟨ok,vk,k1,k2,k3⟩:=C.k;obtain ⟨oi,i1,i2⟩:=C.i;obtain ⟨os,s1,s2⟩:=C.s;obtain ⟨od,kvs,d1,d2,d3⟩:=C.d;obtain ⟨ndp,l1,l2,l3,l4,l5,l6⟩:=C.its.at_ mi.length p (by simp)
 refine ⟨λb o e=>by rw [put_ne (ne_none e l6)];exact C.sub _ _ e,⟨ok,vk,(put_ne (ne_ty k1 k2.cls l4 rfl (by decide))).trans k1,k2,k3⟩,⟨oi,(put_ne (ne_ty i1 i2.cls l4 rfl (by decide))).trans i1,i2⟩,⟨os,(put_ne (ne_ty s1 s2.cls l4 rfl (by decide))).trans s1,s2⟩,
  ⟨od,kvs,(put_ne (ne_ty d1 d2.cls l4 rfl (by decide))).trans d1,d2,d3⟩,C.its.draw hs hN hm,C.ne,C.z,C.tn,C.st,C.ch,C.fr⟩
theorem stop_exc:isSubtype (.type "StopIteration") (.type "BaseException")=pure true:=by rw [isSubtype_type];kernel_rfl
theorem stop_nt:isSubtype (.type ((Manifest.find? "StopIteration").elim "type" λy=>y.metatype)) (.type "tuple")=pure false:=by rw [isSubtype_type];kernel_rfl
theorem stop_sub:isSubtype (.type "StopIteration") (.type "StopIteration")=pure true:=by rw [isSubtype_type];kernel_rfl
theorem sp_fc {fl:List Env} (K:Kp B g s) (hr:Rm A 4) (hH:A.handled=none∨(nodes≠[]∧¬ Dead (nodes.map Node.pn))) (hF:A.frames=some fl) (hfl:FrOk B fl) (Ts:Srt w F₀ g x sdx d nodes rv po fi) (hz:nodes.length≤900) (hsuc:∀ nd∈nodes,nd.succ=[]∨∃ y,nd.succ=[y]∧y∈nodes.map (·.n)) :
  codeAny (model PG w) A (.call (.ref 127) ⟨[.ref x],[]⟩) (λr s'=>Ex2 λv g'=>And4 (r=.ok (.ret v)) (Kp B g' s') (Sub g g') (((v=.none∧(nodes=[]∨Dead (nodes.map Node.pn)))∨Ex2 λlr c=>And4 (v=.ref lr) (SL g' lr c) (g lr=none) (Ring (nodes.map Node.pn) c)))) s:=by
 refine call_fnFH (λh=>h=none∨(nodes≠[]∧¬ Dead (nodes.map Node.pn))) (binds:=[(Str.ofString "self",.ref x)]) K hr hH hF (by rfl) (by kernel_rfl) (BindsTo.of_eq rfl) (by rfl) (λA L s E hr hH hF S=>?_);intro _ _;refine in_envX ?_;intro _;walk_at "J";refine Ts.getN S λs S=>?_;walk_at "J";refine n_list ‹_› λs lk ok olk nk _ _ S=>?_;walk_at "J";refine n_list ‹_› λs li oi oli ni _ _ S=>?_;walk_at "J";refine o_newSet ‹_› λs ls os oss ns S=>?_;walk_at "J";refine r_dict0 ‹_› λs ld od odd nd _ _ S=>?_;walk_at "J";have gk:g lk=none:=nk;have n1:lk≠li:=ne_none (put_self ..) ni;have gi:g li=none:=none_sub ni (Sub.put nk);have gs:g ls=none:=none_sub (none_sub ns (Sub.put ni)) (Sub.put nk);have gd:g ld=none:=none_sub (none_sub (none_sub nd (Sub.put ns)) (Sub.put ni)) (Sub.put nk);have lik:g lk=none∧g li=none∧g ls=none∧g ld=none:=⟨gk,gi,gs,gd⟩;have hsub:Sub g (put (put (put (put g lk ok) li oi) ls os) ld od):=(Sub.put nk).trans ((Sub.put ni).trans ((Sub.put ns).trans (Sub.put nd)))
 have C0:FC w g (put (put (put (put g lk ok) li oi) ls os) ld od) nodes lk li ls ld [] [] 1 (λ_=>false) 0:=by
  refine ⟨hsub,⟨ok,[],?_,olk,.nil⟩,⟨oi,?_,oli⟩,⟨os,?_,oss⟩,⟨od,[],put_self ..,odd,rfl,λj y h=>by simp at h⟩,⟨rfl,λj p h=>by simp at h,by simp⟩,n1,?_,λy h=>by simp at h,λy h=>by simp at h,λj a b h=>by simp at h,lik⟩
  ·exact put_of nd (put_of ns (put_of ni (put_self ..)))
  ·exact put_of nd (put_of ns (put_self ..))
  ·exact put_of nd (put_self ..)
  ·unfold unseen;rw [Nat.zero_add];exact List.length_filter_le ..
 generalize put (put (put (put g lk ok) li oi) ls os) ld od=G0 at *;obtain ⟨oD,hD,odD⟩:=Ts.d_;have hD0:G0 d=some oD:=hsub _ _ hD
 refine for_dictH ‹_› (sysNe ‹_› hD0) hD0 odD (λi m' g'=>Ex2 λT n=>And7 (FC w g g' nodes lk li ls ld [] [] 1 T n) (m' (Str.ofString "n2i")=some (.ref d)) (m' (Str.ofString "stack")=some (.ref lk)) (m' (Str.ofString "itstack")=some (.ref li)) (m' (Str.ofString "seen")=some (.ref ls)) (m' (Str.ofString "node2stacki")=some (.ref ld)) (((i=0∧∀ y,T y=false)∨Dead (nodes.map Node.pn)))) (λv m' g'=>Ex2 λlr c=>And5 (v=some (.ref lr)) (SL g' lr c) (g lr=none) (Ring (nodes.map Node.pn) c) (Sub g g'))
  ⟨_,_,C0,by walk_at "J.m",by walk_at "J.m",by walk_at "J.m",by walk_at "J.m",by walk_at "J.m",.inl ⟨rfl,λ_=>rfl⟩⟩ ?_ ?_ ?_ ?_ ?_
 ·refine hH.imp id λ⟨hne,hnd⟩=>⟨by rw [List.length_map];exact List.length_pos_iff.mpr hne,λm' g' ⟨T,n,_,_,_,_,_,_,h⟩=>?_⟩;rcases h with ⟨h,_⟩|h
  ·exact absurd h (by decide)
  ·exact hnd h
 ·rintro i m' g' ⟨T,n,C,_⟩;exact keep1 (hD0) (C.sub _ _ hD)
 ·rintro i v m' g' s₁ B' E₁ hB hi hv ⟨T,n,C,h1,h2,h3,h4,h5,h6⟩ S₁;refine gq λ_ z2=>?_;obtain ⟨y,xv,ty,hy,rfl⟩:=hv
  have hyn:y∈nodes.map (·.n):=by
   rw [List.getElem?_map] at hy;cases q:nodes[i]? with
   |none=>rw [q] at hy;cases hy
   |some nd=>rw [q] at hy;cases hy;exact List.mem_map.mpr ⟨nd,List.mem_of_getElem? q,rfl⟩
  obtain ⟨os,hs,oss⟩:=C.s;refine z2 ?_;have hn900:n≤900:=by have:=C.z;exact om60 hz this
  walk_at "J";refine o_inSet ‹_› hs oss (by show n < 4096;exact Nat.lt_of_le_of_lt ‹_› (by decide)) λs S=>?_;walk_at "J";cases hTy:T y with
  |true=>
   walk_at "J";refine ⟨_,_,‹_›,T,n,C,by walk_at "J.m",by walk_at "J.m",by walk_at "J.m",by walk_at "J.m",by walk_at "J.m",?_⟩;rcases h6 with ⟨_,h6⟩|h6
   ·rw [h6 y] at hTy;cases hTy
   ·exact .inr h6
  |false=>
   walk_at "J";have MFdef:True:=trivial
   refine while_I (λk s=>Ex8 λm' g' stk mi T n y ty=>And12 (k=unseen nodes T) (FC w g g' nodes lk li ls ld stk mi 1 T n) (St B' L m' g' s) (m' (Str.ofString "n2i")=some (.ref d)) (m' (Str.ofString "stack")=some (.ref lk)) (m' (Str.ofString "itstack")=some (.ref li)) (m' (Str.ofString "seen")=some (.ref ls)) (m' (Str.ofString "node2stacki")=some (.ref ld)) (m' (Str.ofString "node")=some (.str y ty)) (y∈nodes.map (·.n)) (((stk=[]∧T y=false)∨∃ a∈nodes,stk.getLast?=some a.n∧a.succ=[y])) ((Dead (nodes.map Node.pn)∨∀ z,T z=true->z∈stk))) ?_ (unseen nodes T)
    ⟨_,_,[],[],T,n,y,ty,rfl,C,‹_›,by walk_at "J.m",by walk_at "J.m",by walk_at "J.m",by walk_at "J.m",by walk_at "J.m",by walk_at "J.m",hyn,.inl ⟨rfl,hTy⟩,?_⟩
   rotate_left
   ·rcases h6 with ⟨_,h6⟩|h6
    ·exact .inr λz hz=>by rw [h6 z] at hz;cases hz
    ·exact .inl h6
   clear h1 h2 h3 h4 h5 h6 C hTy hyn hs oss hn900;rintro k s E₂ ⟨m₁,g₁,stk,mi,T,n,y,ty,rfl,C,S,h1,h2,h3,h4,h5,h6,hyn,htop,hdead⟩;refine gq λ_ z3=>?_;obtain ⟨os,hs,oss⟩:=C.s;have hn900:n≤900:=by have:=C.z;exact om60 hz this
   have hlen:stk.length≤900:=by have:=C.len;exact n_t ‹_› (n_t ‹_› (by decide))
   obtain ⟨U0,hU0⟩:∃ U0,U0=unseen nodes T:=⟨_,rfl⟩;refine z3 ?_;rw [<-hU0];walk_at "J";refine if_t rfl ?_;refine x_ifCut (λs=>Ex9 λm' g' stk mi ct T n y ty=>And9 (FC w g g' nodes lk li ls ld stk mi ct T n) (St B' L m' g' s) (m' (Str.ofString "n2i")=some (.ref d)) (m' (Str.ofString "stack")=some (.ref lk)) (m' (Str.ofString "itstack")=some (.ref li)) (m' (Str.ofString "seen")=some (.ref ls)) (m' (Str.ofString "node2stacki")=some (.ref ld)) (m' (Str.ofString "node")=some (.str y ty)) (((ct=1∧Dead (nodes.map Node.pn))∨(ct=0∧stk≠[]∧unseen nodes T < U0∧(Dead (nodes.map Node.pn)∨∀ z,T z=true->z∈stk))))) ?_ ?_
   ·walk_at "J";refine o_inSet ‹_› hs oss (by show n < 4096;exact Nat.lt_of_le_of_lt ‹_› (by decide)) λs S=>?_;walk_at "J";cases hTy:T y with
    |true=>
     walk_at "J";obtain ⟨od,kvs,hd1,hd2,hd3⟩:=C.d;refine o_inD ‹_› (sysNe ‹_› hd1) (hd2.dictOf (St.sub ‹_› hd1)) λs S=>?_;walk_at "J"
     by_cases hys:y∈stk
     ·obtain ⟨j,hj⟩:=List.getElem?_of_mem hys;refine gq λ_ z5=>?_;obtain ⟨t,ht⟩:=hd3.2 j y hj;obtain ⟨_,es,ep,_,_,_,hnd⟩:=id hd2;have hv:=valueAt_of_get hnd ht;obtain ⟨ok,vk,hk1,hk2,hk3⟩:=C.k;refine z5 ?_;have lvk:=hk3.len_eq;refine x_iteT (by rw [hv];rfl) ?_;walk_at "J";refine t_dict ‹_› (hd2.dictOf (St.sub ‹_› hd1)) hv λs S=>?_;walk_at "J";refine t_sliceFrom ‹_› (hk2.isList (St.sub ‹_› hk1)) (by exact om61) (by exact n_t (n_e ‹_›) (n_t ‹_› (by decide))) λs D1 o1 ol1 n1 S=>?_;walk_at "J";refine n_list ‹_› λs D2 o2 ol2 n2 _ _ S=>?_;walk_at "J";have hD1:=put_of (o:=o2) n2 (put_self (g:=g₁) (a:=D1) (o:=o1));refine o_addL ‹_› (ol1.isList (St.sub ‹_› hD1)) (ol2.isList (St.sub ‹_› (put_self ..))) (by rw [List.length_drop];simp;exact om62 hlen lvk) λs D3 o3 ol3 n3 S=>?_;refine gq λ_ z6=>?_
      obtain ⟨na,a1,a2,a3⟩:∃ a∈nodes,stk.getLast?=some a.n∧a.succ=[y]:=by
       rcases htop with ⟨rfl,_⟩|h
       ·cases hys
       ·exact h
      refine z6 ?_;have hsub:Sub g₁ (put (put (put g₁ D1 o1) D2 o2) D3 o3):=(Sub.put n1).trans ((Sub.put n2).trans (Sub.put n3));rw [Int.toNat_natCast] at ol3;walk_at "J";exact ⟨_,_,S,D3,stk.drop j ++ [y],rfl,⟨o3,_,put_self ..,ol3,(strs_drop hk3 j).append' (.cons _ _ .nil)⟩,none_sub (none_sub (none_sub n3 (Sub.put n2)) (Sub.put n1)) C.sub,ring_of C.ch hj a1 a2 a3 C.len,C.sub.trans hsub⟩
     ·have hv:=valueAt_none (kvs:=kvs) (y:=y) (by rw [hd3.keys];exact hys);refine x_iteF (by rw [hv];rfl) ?_;walk_at "J";refine ⟨_,_,stk,mi,1,T,n,y,ty,C,‹_›,h1,h2,h3,h4,h5,h6,.inl ⟨rfl,?_⟩⟩;rcases hdead with h|h
      ·exact h
      ·exact absurd (h y hTy) hys
    |false=>
     walk_at "J";refine gq λ_ z7=>?_;obtain ⟨nd,hm,rfl⟩:=List.mem_map.mp hyn;obtain ⟨ok,vk,hk1,hk2,hk3⟩:=C.k;obtain ⟨oi,hi1,hi2⟩:=C.i;obtain ⟨od,kvs,hd1,hd2,hd3⟩:=C.d;refine z7 ?_;have lvk:=hk3.len_eq;have lmi:=C.its.m;have sz:=sizeLine_eq;have nk:nd.n∉stk:=λh=>by rw [C.st _ h] at hTy;cases hTy
     have sk:ls≠lk:=ne_ty hs oss.cls hk1 hk2.cls (by decide);have si:ls≠li:=ne_ty hs oss.cls hi1 hi2.cls (by decide);have sd:ls≠ld:=ne_ty hs oss.cls hd1 hd2.cls (by decide);have kd:lk≠ld:=ne_ty hk1 hk2.cls hd1 hd2.cls (by decide);have id_:li≠ld:=ne_ty hi1 hi2.cls hd1 hd2.cls (by decide);refine r_meth F.plainAttrs_set F.slot_set_add F.type_set_add ?_;walk_at "J";refine ⟨⟨_,St.sub ‹_› hs,oss.cls⟩,λa e=>by cases e;exact ⟨_,St.sub ‹_› hs,oss.1.2.1⟩,?_⟩;walk_at "J";refine o_addSet ‹_› hs oss (by show n + 1 < 4096;exact om63 hn900) λs os' oss' S=>?_;rw [hTy] at oss';walk_at "J";have sub₁:Sub g (put g₁ ls os'):=λb o e=>by rw [put_ne (ne_none e C.fr.2.2.1)];exact C.sub _ _ e
     have Ts₁:=Ts.subg sub₁;have hi1':put g₁ ls os' li=some oi:=(put_ne si.symm).trans hi1;refine r_meth F.plainAttrs_list F.slot_list_append F.type_list_append ?_;walk_at "J";refine ⟨hi2.typeIs (St.sub ‹_› hi1'),λa e=>by cases e;exact ⟨_,St.sub ‹_› hi1',by obtain ⟨n,rfl⟩:=hi2;rfl⟩,?_⟩;walk_at "J";refine Ts₁.item ‹_› hyn λs nd' hm' hnn S=>?_;have:=(Ts.inj hm' hm).1 hnn;subst this;walk_at "J";obtain ⟨odn,osl,vsl,t,t',k1,k2,k3,k4,k5⟩:=Ts₁.nd_ nd' hm;refine n_getSucc ‹_› k1 k2 λs S=>?_;walk_at "J";refine o_iter ‹_› k3 k4 λs it nit S=>?_;walk_at "J";refine it_getNext ‹_› (put_self ..) λs M nM S=>?_;walk_at "J";have hi3:put (put (put g₁ ls os') it (liObj nd'.sl 0)) M (mwObj it) li=some oi:=put_of nM (put_of nit hi1');refine o_append ‹_› hi3 hi2 (by rw [List.length_map];exact n_t (n_e ‹_›) (n_t ‹_› (by decide))) λs oi' oli' S=>?_;have hk4:put (put (put (put g₁ ls os') it (liObj nd'.sl 0)) M (mwObj it)) li oi' lk=some ok:=(put_ne C.ne).trans (put_of nM (put_of nit ((put_ne sk.symm).trans hk1)));have hd4:put (put (put (put g₁ ls os') it (liObj nd'.sl 0)) M (mwObj it)) li oi' ld=some od:=(put_ne id_.symm).trans (put_of nM (put_of nit ((put_ne sd.symm).trans hd1)));walk_at "J";refine o_lenL ‹_› hk4 hk2 (by exact n_t (n_e ‹_›) (n_t ‹_› (by decide))) λs tl S=>?_;walk_at "J";refine o_setD ‹_› hd4 hd2 (by rw [hd3.1];exact n_t ‹_› (by decide)) λs od' odd' S=>?_;rw [stored_new (by rw [hd3.keys];exact nk),lvk] at odd';walk_at "J";have hk5:=(put_ne (o:=od') kd).trans hk4;refine r_meth F.plainAttrs_list F.slot_list_append F.type_list_append ?_;walk_at "J";refine ⟨hk2.typeIs (St.sub ‹_› hk5),λa e=>by cases e;exact ⟨_,St.sub ‹_› hk5,by obtain ⟨n,rfl⟩:=hk2;rfl⟩,?_⟩;walk_at "J";refine o_append ‹_› hk5 hk2 (by exact n_t (n_e ‹_›) (n_t ‹_› (by decide))) λs ok' olk' S=>?_;walk_at "J";have hc:stk=[]∨∃ a∈nodes,stk.getLast?=some a.n∧a.succ=[nd'.n]:=htop.imp (·.1) id;have CP:=C.push (ok':=ok') (os':=os') (oi':=oi') (od':=od') hm hTy hc oss' nit nM (by rw [List.map_append];exact oli') odd' (hd3.push _ _) olk' (hk3.append' (.cons _ _ .nil)) rfl;refine ⟨_,_,stk ++ [nd'.n],mi ++ [(M,it)],0,_,n + 1,nd'.n,ty,CP,‹_›,h1,h2,h3,h4,h5,h6,.inr ⟨rfl,by simp,?_,?_⟩⟩
     ·have:=unseen_add (nodes:=nodes) hyn hTy;exact om64 hU0 this
     ·rcases hdead with h|h
      ·exact .inl h
      ·right
       intro z hz;rw [Bool.or_eq_true,decide_eq_true_eq] at hz;rcases hz with hz|rfl
       ·exact List.mem_append_left _ (h z hz)
       ·simp
   ·clear hlen hn900 hs oss os htop hdead hyn h1 h2 h3 h4 h5 h6 C;rintro s ⟨m₂,g₂,stk,mi,ct,T,n,y,ty,C,S,h1,h2,h3,h4,h5,h6,hst⟩;walk_at "J";refine while_I (λk s=>Ex7 λm₂ g₂ stk mi ct y ty=>And10 (k=stk.length) (FC w g g₂ nodes lk li ls ld stk mi ct T n) (St B' L m₂ g₂ s) (m₂ (Str.ofString "n2i")=some (.ref d)) (m₂ (Str.ofString "stack")=some (.ref lk)) (m₂ (Str.ofString "itstack")=some (.ref li)) (m₂ (Str.ofString "seen")=some (.ref ls)) (m₂ (Str.ofString "node2stacki")=some (.ref ld)) (m₂ (Str.ofString "node")=some (.str y ty)) (((ct=1∧Dead (nodes.map Node.pn))∨(ct=0∧stk≠[]∧unseen nodes T < U0∧(Dead (nodes.map Node.pn)∨∀ z,T z=true->z∈stk))))) ?_ stk.length ⟨m₂,g₂,stk,mi,ct,y,ty,rfl,C,S,h1,h2,h3,h4,h5,h6,hst⟩;clear hst h1 h2 h3 h4 h5 h6 C S;rintro k s E₂ ⟨m₂,g₂,stk,mi,ct,y,ty,rfl,C,S,h1,h2,h3,h4,h5,h6,hst⟩;obtain ⟨ok,vk,hk1,hk2,hk3⟩:=C.k;have lvk:=hk3.len_eq;have hlen:stk.length≤900:=by have:=C.len;exact n_t ‹_› (n_t ‹_› (by decide))
    walk_at "J";refine o_truthyL ‹_› hk1 hk2 (by exact n_t (n_e ‹_›) (n_t ‹_› (by decide))) λs S=>?_;rcases List.eq_nil_or_concat stk with rfl|⟨stk0,a,rfl⟩
    ·have:vk=[]:=List.length_eq_zero_iff.mp (by simpa using lvk);subst this;refine if_f (by decide) ?_;walk_at "J";rcases hst with ⟨_,hdd⟩|⟨_,h,_⟩
     ·exact ⟨_,_,‹_›,T,n,by have:=C.its.m;rw [List.length_eq_zero_iff.mp this] at C;exact C.retop 1,h1,h2,h3,h4,h5,.inr hdd⟩
     ·exact absurd rfl h
    ·rw [List.concat_eq_append] at *;obtain ⟨vk0,tk,rfl,hk3'⟩:=strs_snocI hk3;refine if_t (by simp) ?_;have hml:=C.its.m;refine gq λ_ z11=>?_
     obtain ⟨mi0,p,rfl⟩:∃ mi0 p,mi=mi0 ++ [p]:=by
      rcases List.eq_nil_or_concat mi with rfl|⟨mi0,p,rfl⟩
      ·simp at hml
      ·exact ⟨mi0,p,List.concat_eq_append ..⟩
     obtain ⟨nd,hm,hnd,hM,hit,hMg,hig⟩:=C.its.at_ mi0.length p (by simp);rw [if_neg (by simp)] at hit;have hl0:mi0.length=stk0.length:=by simpa using hml
     have hna:a=nd.n:=by rw [hl0] at hnd;simpa using hnd
     subst hna;obtain ⟨oi,hi1,hi2⟩:=C.i;obtain ⟨odn,osl,vsl,t,t',k1,k2,k3,k4,k5⟩:=Ts.nd_ nd hm;refine z11 ?_;have k3':=C.sub _ _ k3;have lvs:=k5.len_eq;refine x_tryE ?_;walk_at "J";refine o_negI ‹_› λs tk S=>?_;have hlm:(((mi0 ++ [p]).map λp=>Value.ref p.1).length:Int)=mi0.length + 1:=by simp
     refine t_itemNeg (v:=.ref p.1) (hi2.isList (St.sub ‹_› hi1)) (by decide) (by rw [hlm];exact om65 hl0 hlm) (by decide) (by rw [hlm,show ((-1 + ((mi0.length:Int) + 1)).toNat)=mi0.length from by exact om66 hl0 hlm];simp) ?_
     by_cases hcase:ct=0∧nd.succ≠[]
     ·obtain ⟨rfl,hne⟩:=hcase;refine gq λ_ z12=>?_;obtain ⟨z,hz1,hz2⟩:=(hsuc nd hm).resolve_left hne;rw [hz1] at k5;obtain ⟨tz,hvz⟩:=k5.at (j:=0) rfl;refine z12 ?_;walk_at "J";refine c_next_item ‹_› hM hit k3' k4 hvz λs S=>?_;walk_at "J";rcases hst with ⟨h,_⟩|⟨_,_,hU,hdead⟩
      ·cases h
      ·refine ⟨unseen nodes T,hU,_,_,stk0 ++ [nd.n],mi0 ++ [p],T,n,z,tz,rfl,C.draw (by rw [hl0];simp) Ts.nodeN hm,‹_›,by walk_at "J.m",by walk_at "J.m",by walk_at "J.m",by walk_at "J.m",by walk_at "J.m",by walk_at "J.m",hz2,.inr ⟨nd,hm,by simp,hz1⟩,hdead⟩
     ·have hdd:Dead (nodes.map Node.pn):=by
       rcases hst with ⟨_,h⟩|⟨h0,_⟩
       ·exact h
       ·refine ⟨nd.pn,List.mem_map.mpr ⟨nd,hm,rfl⟩,?_⟩;exact Classical.byContradiction λhne=>hcase ⟨h0,hne⟩
      have hnone:vsl[ct]?=none:=by
       rw [List.getElem?_eq_none_iff,lvs];rcases hst with ⟨rfl,_⟩|⟨rfl,_⟩
       ·rcases hsuc nd hm with h|⟨z,h,_⟩ <;> rw [h] <;> simp
       ·rw [Classical.byContradiction λhne=>hcase ⟨rfl,hne⟩];simp
      have hh:A.handled=none:=hH.resolve_right λh=>h.2 hdd;walk_at "J";refine c_next_end ‹_› hh hM hit k3' k4 hnone λs e o₁ oe fs a0 S he hc hd h0 h1' eg eb eL e1 e2=>?_;walk_at "J";refine caughtF S hF (hfl.le hB) rfl he hc hd h1' h0 eg eb eL e1 e2 (bi_tab _ (by with_unfolding_all rfl)) stop_exc stop_nt stop_sub (λs S=>?_);obtain ⟨od,kvs,hd1,hd2,hd3⟩:=C.d;have kp:lk≠p.2:=ne_ty hk1 hk2.cls hit rfl (by decide);have dp:ld≠p.2:=ne_ty hd1 hd2.cls hit rfl (by decide);have ip:li≠p.2:=ne_ty hi1 hi2.cls hit rfl (by decide);have kd:lk≠ld:=ne_ty hk1 hk2.cls hd1 hd2.cls (by decide);have id_:li≠ld:=ne_ty hi1 hi2.cls hd1 hd2.cls (by decide);have sz:=sizeLine_eq;walk_at "J";refine r_meth F.plainAttrs_list F.slot_list_pop F.type_list_pop ?_;walk_at "J";have hk6:put g₂ p.2 o₁ lk=some ok:=(put_ne kp).trans hk1;refine ⟨hk2.typeIs (St.sub ‹_› hk6),λa e=>by cases e;exact ⟨_,St.sub ‹_› hk6,by obtain ⟨n,rfl⟩:=hk2;rfl⟩,?_⟩;walk_at "J";refine o_pop ‹_› hk6 hk2 (by have h9:=hk3'.len_eq;rw [List.length_append] at hlen;exact om67 hl0 hlen hlm sz h9) λs ok' olk' S=>?_;have hd7:put (put g₂ p.2 o₁) lk ok' ld=some od:=(put_ne kd.symm).trans ((put_ne dp).trans hd1);refine gq λ_ z14=>?_;obtain ⟨tv,htv⟩:=hd3.2 stk0.length nd.n (by simp);obtain ⟨_,es,ep,_,_,_,hndk⟩:=id hd2;refine z14 ?_;refine o_delD ‹_› hd7 hd2 (by rw [hd3.1];exact n_t ‹_› (by decide)) (by rw [valueAt_of_get hndk htv];rfl) λs od' odd' S=>?_;walk_at "J";have hi7:put (put (put g₂ p.2 o₁) lk ok') ld od' li=some oi:=(put_ne id_).trans ((put_ne C.ne.symm).trans ((put_ne ip).trans hi1));refine r_meth F.plainAttrs_list F.slot_list_pop F.type_list_pop ?_;walk_at "J";refine ⟨hi2.typeIs (St.sub ‹_› hi7),λa e=>by cases e;exact ⟨_,St.sub ‹_› hi7,by obtain ⟨n,rfl⟩:=hi2;rfl⟩,?_⟩;walk_at "J";have hi2':OL ((mi0.map λp=>Value.ref p.1) ++ [.ref p.1]) oi:=by simpa using hi2
      refine o_pop ‹_› hi7 hi2' (by rw [List.length_map];simp at hlen;exact om68 hl0 hlm sz hlen) λs oi' oli' S=>?_;walk_at "J";exact ⟨stk0.length,by simp,_,_,stk0,mi0,1,y,ty,rfl,C.pop olk' hk3' hd1 hd2 hd3 odd' oli' rfl,‹_›,h1,h2,h3,h4,h5,h6,.inl ⟨rfl,hdd⟩⟩
 ·rintro m' g' s₁ E₁ ⟨T,n,C,h1,h2,h3,h4,h5,h6⟩ S₁;walk_at "J";refine ⟨.none,g',rfl,S₁.kp,C.sub,.inl ⟨rfl,?_⟩⟩;rcases h6 with ⟨h6,_⟩|h6
  ·left
   rw [List.length_map] at h6;exact List.length_eq_zero_iff.mp h6
  ·exact .inr h6
 ·rintro v m' g' s₁ ⟨lr,c,rfl,h1,h2,h3,h4⟩ S₁;walk_at "J";exact ⟨.ref lr,g',rfl,S₁.kp,h4,.inr ⟨lr,c,rfl,h1,h2,h3⟩⟩
end
section
variable {w:World} {B:Bs w} {A:Around} {L:Addr} {m m':Str->Option Value} {F₀ g g':PH} {s:Shared} {env:Env} {E:Value->Shared->Prop} {pl:Sem Bool} {x sdx d:Addr}
theorem z_set {od:Obj} {ks:List Str} {mA:Str->Option Value} {name:Str} {v:Value} {Q:Unit->Shared->Prop} (S:St B L m g s) (hx:g x=some (ins 137 sdx #[])) (hd:g sdx=some od) (oa:OA ks mA od) (hz:ks.length < 400) (hk:name∈ksS)
  (h:∀ s' od',OA (kadd ks name) (up mA name v) od'->St B L m (put g sdx od') s'->Q () s'):wpAny (model PG w) A (setAttr (.ref x) name v) Q E s:=by
 have key:takerIn (HF w) 137 name=some none:=by
  simp only [ksS,List.mem_cons,List.not_mem_nil,or_false] at hk;rcases hk with rfl|rfl|rfl|rfl <;> kernel_rfl
 exact i_set S hx hd oa hz (by kernel_rfl) (by kernel_rfl) key (by kernel_rfl) h
theorem sp_sinit (K:Kp B g s) (hr:Rm A 2) (hh:A.handled=none) (hx:g x=some (ins 137 sdx #[])) (hd:g sdx=some emptyDict) (hne:sdx≠x) (F₀x:F₀ x=none) (F₀d:F₀ sdx=none) (hsub:Sub F₀ g) :
  codeAny (model PG w) A (.call (.ref 73) ⟨[.ref x],[]⟩) (λr s'=>Ex2 λd g'=>And3 (r=.ok (.ret .none)) (Kp B g' s') (Srt w F₀ g' x sdx d [] .none 0 0)) s:=by
 refine call_fnBA (λbinds g'=>g'=g∧binds=[(Str.ofString "self",.ref x),(Str.ofString "graph",.none)]) K hr hh (by rfl) (by kernel_rfl) (λQ E hQ=>?_) λA binds g' L s' E' hr hh hP S=>?_
 ·have e284:s.heap.get? 66=some ⟨.type "tuple",none,.seq #[.none],#[]⟩:=K.ov _ _ (B.X _ _ (by rfl));change wpAny _ _ (seqItems? (.ref 66) >>= _) _ _ _;refine wpAny_bind (wpAny_seqItems e284 rfl ?_);change wpAny _ _ (pure [(Str.ofString "self",Value.ref x),(Str.ofString "graph",Value.none)]) _ _ _;exact wpAny_pure (hQ _ _ _ K ⟨rfl,rfl⟩ (by rfl))
 intro _ _;refine in_envX ?_;intro _;obtain ⟨rfl,rfl⟩:=hP;walk_at "J";refine r_dict0 ‹_› λs d o odw nd _ _ S=>?_;have dx1:x≠d:=ne_none hx nd;have dx2:sdx≠d:=ne_none hd nd;have nFd:=none_sub nd hsub;walk_at "J";refine z_set ‹_› ((put_ne dx1).trans hx) ((put_ne dx2).trans hd) OA.nil (by decide) (by decide) λs od₁ a₁ S=>?_;walk_at "J";refine z_set ‹_› ((put_ne hne.symm).trans ((put_ne dx1).trans hx)) (put_self ..) a₁ (by decide) (by decide) λs od₂ a₂ S=>?_;rw [put_put] at S;walk_at "J";refine z_set ‹_› ((put_ne hne.symm).trans ((put_ne dx1).trans hx)) (put_self ..) a₂ (by decide) (by decide) λs od₃ a₃ S=>?_;rw [put_put] at S;walk_at "J";refine z_set ‹_› ((put_ne hne.symm).trans ((put_ne dx1).trans hx)) (put_self ..) a₃ (by decide) (by decide) λs od₄ a₄ S=>?_;rw [put_put] at S;walk_at "J";refine o_isNotNone ?_;walk_at "J";refine x_iteF (by rfl) ?_;walk_at "J";have S':=St.kp ‹_›;refine ⟨d,_,rfl,S',(put_ne hne.symm).trans ((put_ne dx1).trans hx),⟨od₄,_,_,_,put_self ..,a₄,by rfl,by rfl,by rfl,by rfl⟩,⟨o,(put_ne dx2.symm).trans (put_self ..),odw⟩,by simp,by simp,by simp,dx2,λb y e=>?_,F₀x,F₀d,nFd,by simp⟩;have e':=hsub _ _ e;rw [put_ne (ne_none e F₀d),put_ne (ne_none e nFd)];exact e'
end
section
variable {w:World} {B:Bs w} {A:Around} {L e:Addr} {m m':Str->Option Value} {F₀ g g':PH} {s:Shared} {env:Env} {E:Value->Shared->Prop} {pl:Sem Bool} {x sdx d:Addr}
noncomputable def OffB (B:Bs w) (g:PH) (fs:List Addr):Prop:=∀ b∈fs,(g b=none∧B.base b=none∧b≠321∧b≠293)∨∃ o,B.base b=some (.fr o)∧∀ vs,o.data≠.fields vs
theorem Kp.slots (K:Kp B g s) {fs:List Addr} {h':Heap} (hfs:OffB B g fs) (k1:∀ b o,b∉fs->s.heap.get? b=some o->h'.get? b=some o) (k4:s.heap.UpToSlots h'):Kp B g { s with heap:=h' }:=by
 have t1:(321:Addr)∉fs:=λh=>by
  rcases hfs _ h with h|⟨o,h,_⟩
  ·exact h.2.2.1 rfl
  ·rw [B.h1] at h;cases h
 have t2:(293:Addr)∉fs:=λh=>by
  rcases hfs _ h with h|⟨o,h,_⟩
  ·exact h.2.2.2 rfl
  ·rw [B.h2] at h;cases h
 have kg:∀ b o,g b=some o->h'.get? b=some o:=λb o e=>k1 b o (λh=>by
  rcases hfs _ h with h|⟨o',h,_⟩
  ·rw [h.1] at e;cases e
  ·rw [K.dis _ _ e] at h;cases h) (K.sub _ _ e)
 refine ⟨λb x e=>?_,kg,K.dis,K.gens,K.os,K.t1.mono (λo e=>k1 _ _ t1 e) (λ_ _ _ e=>e),K.t2.mono (λo e=>k1 _ _ t2 e) (λ_ _ _ e=>e),K.h1,K.h2⟩
 by_cases hb:b∈fs
 ·rcases hfs _ hb with h|⟨o',h,hn⟩
  ·rw [h.2.1] at e;cases e
  ·rw [h] at e;cases e;obtain ⟨sl,h2⟩:=K.ov _ _ h;obtain ⟨sl',h3⟩:=k4 _ _ h2 hn;exact ⟨sl',h3⟩
 ·exact (K.ov _ _ e).of λo e'=>k1 b o hb e'
noncomputable def Fly (B:Bs w) (g:PH) (fl:List Env) (e C:Addr) (s:Shared):Prop:=
 Ex3 λh₀ fs a0=>And4 (Kp B g { s with heap:=h₀ }) (OffB B g fs) (Heap.FlyingW (hideAll h₀ fs) fl e (.ref C) a0 s.heap) (h₀.UpToSlots s.heap)
theorem leave_fly {C:Addr} {args:List Value} {h':Heap} {fl:List Env} {Q:Unit->Shared->Prop} (S:St B L m g s) (hF:A.frames=some (env :: fl)) (hfl:FrOk B fl) (hf:env.frame=some L) (hk:env.scope.kind≠.module)
  (hx:Heap.MadeExcOf s.heap h' e (.ref C) args) (k:∀ s',Fly B g fl e C s'->Q () s'):wpAny (model PG w) A (leaving env (.ref e)) Q E { s with heap:=h' }:=by
 have hin:∀ ev∈env :: fl,∀ b,ev.frame=some b->b=L∨∃ o,B.base b=some (.fr o)∧∀ vs,o.data≠.fields vs:=λev hev b hbf=>by
  rcases List.mem_cons.mp hev with rfl|hev
  ·rw [hf] at hbf;cases hbf;exact .inl rfl
  ·obtain ⟨_,L',o,h2,h3,h4⟩:=hfl ev hev;rw [h2] at hbf;cases hbf;exact .inr ⟨o,h3,h4⟩
 obtain ⟨fs,hfs⟩:∃ fs,fs=(env :: fl).filterMap (·.frame):=⟨_,rfl⟩
 have hoff:OffB B g fs:=λb hb=>by
  rw [hfs] at hb;obtain ⟨ev,hev,hb⟩:=mem_frames hb;rcases hin ev hev b hb with rfl|h
  ·exact .inl ⟨S.off,S.offb,S.o1,S.o2⟩
  ·exact .inr h
 have hno:∀ b∈fs,(hideAll s.heap fs).get? b=none:=λb hb=>hideAll_none _ hb;have hev:∀ ev∈env :: fl,∀ b,ev.frame=some b->(hideAll s.heap fs).get? b=none:=λev hev b hb=>hno b (by rw [hfs];exact List.mem_filterMap.mpr ⟨ev,hev,hb⟩)
 have FF:s.heap.FunFrames (hideAll s.heap fs) (env :: fl):=by
  refine gq λ_ z1=>?_;obtain ⟨oL,es,ep,hL,hLd,_⟩:=S.ns;refine z1 ?_;exact ⟨hk,⟨L,oL,hf,hev env (.head _) L hf,hL,λvs q=>by rw [hLd] at q;cases q⟩,ff_fun S.kp hfl λev h=>hev ev (.tail _ h)⟩
 refine wpAny_leaves_madeW (base:=hideAll s.heap fs) (h:=s.heap) hF hf (λb o q=>of_hideAll _ q) FF hx λh₂ t f1 _ _ U=>?_;refine k _ ⟨s.heap,fs,.ref t,S.kp,hoff,f1,λb o hb hd=>?_⟩;exact U _ _ (hx.keeps _ _ hb) hd
theorem cyc_cls (K:Kp B g s):Ex15 λnm q N bs hdct sn sub ab col dd k0 k1 k2 k3 k5=>∃ mN:Str->Option Value,mN "__init__"=none∧∀ g s,Kp B g s->s.heap.get? 55=some (excClassObj nm q 55 N bs [.type "ValueError",.type "Exception",.type "BaseException",.type "object"] hdct sn sub ab col dd k0 k1 k2 k3 k5 "ValueError.__new__")∧s.heap.Ns N mN:=by
 have X:(HF w).In s.heap:=λa o e=>K.ov _ _ (B.X _ _ e)
 obtain ⟨nm,q,N,bs,hdct,sn,sub,ab,col,dd,k0,k1,k2,k3,k5,h1,h2,h3,h4⟩:Ex15 λnm q N bs hdct sn sub ab col dd k0 k1 k2 k3 k5=>And4 ((HF w).lookup 55=some (excClassObj nm q 55 N bs [.type "ValueError",.type "Exception",.type "BaseException",.type "object"] hdct sn sub ab col dd k0 k1 k2 k3 k5 "ValueError.__new__")) (nsOkIn (HF w) N=true) (nsIn (HF w) N "__init__"=some none) (∃ o,(HF w).lookup N=some o):=
  ⟨_,_,_,_,_,_,_,_,_,_,_,_,_,_,_,by rfl,by kernel_rfl,by kernel_rfl,_,by rfl⟩
 obtain ⟨o,h4⟩:=h4;have n1:s.heap.Ns N (s.heap.nsMap N):=.of_isNs (isNs_of_in X h2);refine ⟨nm,q,N,bs,hdct,sn,sub,ab,col,dd,k0,k1,k2,k3,k5,s.heap.nsMap N,nsMap_none_of_in X h2 h3,λg₂ s₂ K₂=>⟨K₂.ov _ _ (B.X _ _ h1),?_⟩⟩;have e₂:s₂.heap.get? N=some o:=K₂.ov _ _ (B.X _ _ h4);obtain ⟨o',es,ep,a1,a2⟩:=n1;rw [X _ _ h4] at a1;cases a1;exact ⟨_,es,ep,e₂,a2⟩
theorem caughtO {B':Bs w} {x:Str} {fl:List Env} {b₀:Stmt} {suite:List Stmt} {np pos:Pos} {rest:List ExceptHandler} {Q:Flow->Shared->Prop} (back:∀ s',Kp B' g' s'->St B L m g' s') (hF:A.frames=some (env :: fl)) (hf:env.frame=some L)
  (Y:Fly B' g' (env :: fl) e 55 s) (hv:B.mg x=some (.ref 55))
  (k:∀ s',St B L m g' s'->wpAny (model PG w) (A.mark (some (.ref e))) (execs (b₀ :: suite) env) Q (λ_ _=>False) s')
  (hk:env.scope.kind=.function:=by rfl) (hx:env.kindOf x=some .globalImplicit:=by rfl) (hg:env.globals=mainGlobals:=by rfl) (hdd:(x == ("__debug__":Str))=false:=by decide) :
  wpAny (model PG w) A (noteFrame (.ref e) env) (λ_ s₂=>wpAny (model PG w) A (setFlight (.ref e) none) (λ_ s₃=>
    wpAny (model PG w) A (handleBy (.ref e) env (.ExceptHandler (some (.Name x np)) none (b₀ :: suite) pos :: rest)) Q E s₃) E s₂) E s:=by
 refine gq λ_ z2=>?_;obtain ⟨h₀,fs,a0,K₀,hoff,hfly,U₀⟩:=Y;refine z2 ?_;have hyes:∀ b o,b∉fs->h₀.get? b=some o->(hideAll h₀ fs).get? b=some o:=λb o hb e=>hideAll_get _ e hb;refine wpAny_looks_onW hF hf hfly λh₄ hheld U₄=>?_;refine wpAny_landsW hheld λh₅ hfly₅ U₅=>?_;have U5:h₀.UpToSlots h₅:=(U₀.trans U₄).trans U₅;have S₅:St B L m g' { s with heap:=h₅ }:=back _ (K₀.slots (h':=h₅) hoff (λb o hb q=>hfly₅.1 _ _ (hyes b o hb q)) U5);obtain ⟨ob,hob,hobc⟩:=hfly₅.there;refine wpAny_handleBy_cons (codeAny_handlers_test (r_global S₅ hv ?_ hk hx hg hdd)) (by intro q;cases q);refine gq λ_ z3=>?_;obtain ⟨nm,q,N,bs,hdct,sn,sub,ab,col,dd,k0,k1,k2,k3,k5,mN,hni,hall⟩:=cyc_cls S₅.kp;obtain ⟨hC,hN⟩:=hall _ _ S₅.kp;refine z3 ?_;refine wpAny_excMatches_sub_self hC hob hobc (by decide) (codeAny_handlers_suite ?_);refine lands_againW hfly₅ λh₆ hfly₆ U₆=>?_;have S₆:St B L m g' { s with heap:=h₆ }:=back _ (K₀.slots (h':=h₆) hoff (λb o hb q=>hfly₆.1 _ _ (hyes b o hb q)) (U5.trans U₆));exact wpAny_noRaise (k _ S₆)
theorem call_fnE {fl:List Env} {k:Nat} {R:Result->Shared->Prop} {name qual:Str} {params:Arguments} {body:List Stmt} {scope:Scope} {dV kV doc pm cdv ct oc:Value} {an od:Option Addr} {osl:Array (Option Value)} {f:Addr} {args:Args} {binds:List (Str×Value)}
  (K:Kp B g s) (hr:Rm A (k + 1)) (hh:A.handled=none) (hF:A.frames=some fl) (ho:(HF w).lookup f=some ⟨oc,od,.func (fnX name qual params body scope [] dV kV doc pm an cdv ct),osl⟩) (hcd:codeIn (HF w) cdv qual=true)
  (hbind:BindsTo s (fnX name qual params body scope [] dV kV doc pm an cdv ct) args binds) (hloc:(binds.all λx=>decide (scope.names.lookup x.1=some .local))=true)
  (h:∀ A' L s',Rm A' k->A'.handled=none->A'.frames=some (envX qual scope L f cdv [] :: fl)->St B L (λy=>binds.reverse.lookup y) g s' ->
   ∀ R':Flow->Shared->Prop,(∀ fl s',R (.ok (.ret (match fl with|.ret v=>v|_=>.none))) s'->R' fl s')->wpAny (model PG w) A' (execs body (envX qual scope L f cdv [])) R' (λe s'=>wpAny (model PG w) A' (leaving (envX qual scope L f cdv []) e) (λ_ s''=>R (.error e) s'') (λe' s''=>R (.error e') s'') s') s')
  (hcell:∀ x∈scope.names,x.2≠.cell:=by decide) (hco:scope.isCoroutine=false:=by rfl) (hgen:scope.isGenerator=false:=by rfl) (hk:scope.kind=.function:=by rfl):codeAny (model PG w) A (.call (.ref f) args) R s:=by
 have hdep:A.depth < recursionLimit:=by have:=hr.d;show A.depth < 1000;exact om69 this
 have hz:=K.size;have X:(HF w).In s.heap:=λa o e=>K.ov _ _ (B.X _ _ e);refine codeAny_call_def (fd:=fnX name qual params body scope [] dV kV doc pm an cdv ct) hdep (X _ _ ho) rfl (B.nolimit _ K.ov) (codeRec_of X hcd) rfl hbind hcell (locs hloc) (λh₁ hns hk₁=>?_) hco hgen hk;exact h _ _ _ hr.deeper hh (Around.frames_deeper hF) ⟨K.grow hk₁ _,hns,K.fresh (Nat.le_refl _),K.freshB (Nat.le_refl _),Nat.ne_of_gt hz.1,Nat.ne_of_gt hz.2⟩ _ λ_ _ h=>h
theorem callF' {fl:List Env} (hF:A.frames=some (env :: fl)) (hfl:FrOk B fl) (S:St B L m g s) (hf:env.frame=some L:=by rfl) (hk:env.scope.kind=.function:=by rfl):∃ B':Bs w,And3 (FrOk B' (env :: fl)) (Kp B' g s) (∀ s' g',Kp B' g' s'->St B L m g' s'):=S.callF hfl env hf (by rw [hk];decide)
theorem x_raise55 {np cpos pos:Pos} {a b:Expr} {rest:List Stmt} {x:Str} {Q:Flow->Shared->Prop} (S:St B L m g s) (hh:A.handled=none) (hv:B.mg x=some (.ref 55))
  (h:wpAny (model PG w) A (eval a env) (λv s₁=>wpAny (model PG w) A (eval b env) (λu s₂=>Kp B g s₂∧∀ h' e,Heap.MadeExcOf s₂.heap h' e (.ref 55) [v,u]->E (.ref e) { s₂ with heap:=h' }) E s₁) E s)
  (hplain:(backTo cpos (starEach [a,b] env)).any (·.1)=false:=by rfl) (ha:starEach [a,b] env=(false,eval a env) :: starEach [b] env:=by rfl) (hb:starEach [b] env=(false,eval b env) :: starEach [] env:=by rfl)
  (hk:env.scope.kind=.function:=by rfl) (hx:env.kindOf x=some .globalImplicit:=by rfl) (hg:env.globals=mainGlobals:=by rfl) (hdd:(x == ("__debug__":Str))=false:=by decide) :
  wpAny (model PG w) A (execs (.Raise (some (.Call (.Name x np) [a,b] [] cpos)) none pos :: rest) env) Q E s:=by
 refine wpAny_execs_cons ?_;refine gq λ_ z4=>?_;obtain ⟨nm,q,N,bs,hdct,sn,sub,ab,col,dd,k0,k1,k2,k3,k5,mN,hni,hall⟩:=cyc_cls S.kp;refine z4 ?_
 refine wpAny_Raise_call_subT (C:=55) (nm:=nm) (q:=q) (N:=N) (bs:=bs) (bm:=[.type "ValueError",.type "Exception",.type "BaseException",.type "object"]) (hdct:=hdct) (sn:=sn) (sub:=sub) (ab:=ab) (col:=col) (dd:=dd) (k0:=k0) (k1:=k1) (k2:=k2) (k3:=k3) (k5:=k5)
  PySem.F.excBase_ValueError (mN:=mN) (by decide) hh hplain hni (r_global S hv ⟨rfl,?_⟩ hk hx hg hdd)
 rw [ha];refine Calls.evalArgs_plain ?_;refine Calls.spliced_cons (wpAny_mono h (λv s₁ h₁=>?_) λ_ _ y=>y);rw [hb];refine Calls.spliced_cons (wpAny_mono h₁ (λu s₂ h₂=>?_) λ_ _ y=>y);refine Calls.spliced_nil ?_;refine gq λ_ z5=>?_;obtain ⟨K₂,h₂⟩:=h₂;obtain ⟨hC,hN⟩:=hall _ _ K₂;refine z5 ?_;exact ⟨rfl,by rw [sizeLine_eq];show 2≤_;decide,hC,hN,.base,h₂⟩
end
section
variable {w:World} {B:Bs w} {A:Around} {L e:Addr} {m m':Str->Option Value} {F₀ g g':PH} {s:Shared} {env:Env} {E:Value->Shared->Prop} {pl:Sem Bool} {x sdx d rl:Addr} {nodes:List Node} {rv:Value} {po fi:Int} {rdy:List Str}
theorem o_values {d:Addr} {kvs:List (Str×Value)} {o:Obj} {Q:Value->Shared->Prop} (S:St B L m g s) (h:g d=some o) (x:OD w kvs o)
  (k:∀ s' V,St B L m g s'->s'.heap.IsValuesView V d->Q (.ref V) s'):wpAny (model PG w) A (call (.builtin "dict.values") [.ref d]) Q E s:=by
 have hd:=x.dictOf (S.sub h)
 exact call_meetsIn PySem.F.slot_dict_values hd.typeIs PySem.F.entry_dict_values (PySem.F.args_dict_values_1 _) (meets_dict_values (strKind PG w) d (sysNe S h))
  ⟨⟨kvs,hd⟩,k _ _ (S.push _ s.toks) ⟨_,Heap.get?_push_size _ rfl,rfl,rfl⟩⟩
theorem O_values {d V:Addr} {kvs:List (Str×Value)} {o:Obj} (S:St B L m g s) (hh:A.handled=none) (hv:s.heap.IsValuesView V d) (h:g d=some o) (x:OD w kvs o):Opens B A L m g s (.ref V) kvs.length (λi v=>∃ k,kvs[i]?=some (k,v)) [d]:=by
 intro Q E hQ;have hd:=x.dictOf (S.sub h)
 obtain ⟨ep,hd⟩:∃ ep,s.heap.DictAt (strKind PG w) d kvs ep:=by
  obtain ⟨o,es,ep,e,a,r1,r2⟩:=hd;exact ⟨ep,o,es,e,a,r1,r2⟩
 have hlt:d≠s.heap.objs.size:=Nat.ne_of_lt (Heap.lt_size (S.sub h));refine wpAny_pyIter_values hv hd ?_;have W:=Walks.dictValues (prog:=PG) (w:=w) (A:=A) (knd:=strKind PG w) hh s.heap.objs.size d hlt kvs ep;refine hQ _ _ _ _ [s.heap.objs.size] _ (S.push _ s.toks) W (λi h st=>m1 (st.1.imp λ_=>And.left)) (Away.nil.push S _) (λb hb=>hb) ⟨⟨_,Heap.get?_push_size _ rfl,rfl,rfl⟩,hd.at' λo e=>Heap.get?_push_of_some _ e⟩ (own1 (.inl h))
theorem ifs0 {env':Env} {K:Bool->Shared->Prop} (h:K true s) :
  wpAny (model PG w) A (forIn ([]:List Expr) true λc r=>if r=true then do let ok <-isTrue c env' (eval c env');pure (ForInStep.yield ok) else pure (ForInStep.yield r)) K E s:=by
 rw [List.forIn_nil];exact wpAny_pure h
theorem ifs1 {env':Env} {c:Expr} {K:Bool->Shared->Prop} (h:wpAny (model PG w) A (PySem.isTrue c env' (eval c env')) K E s) :
  wpAny (model PG w) A (forIn [c] true λc r=>if r=true then do let ok <-isTrue c env' (eval c env');pure (ForInStep.yield ok) else pure (ForInStep.yield r)) K E s:=by
 rw [List.forIn_cons,if_pos rfl];refine wpAny_bind (wpAny_bind (wpAny_mono h (λok s₁ h₁=>wpAny_pure ?_) λ_ _ e=>e));dsimp only;rw [List.forIn_nil];exact wpAny_pure h₁
noncomputable def ready0 (ps:List PN):List Str:=(ps.filter λp=>decide (p.2.1=0)).map (·.1)
theorem ready0_snoc {l:List Node} {nd:Node}:ready0 ((l ++ [nd]).map Node.pn)=ready0 (l.map Node.pn) ++ if nd.np=0 then [nd.n] else []:=by
 unfold ready0;rw [List.map_append,List.filter_append,List.map_append]
 congr 1
 show (List.map _ (List.filter _ [nd.pn]))=_;unfold Node.pn
 by_cases q:nd.np=0 <;> simp [q]
theorem fin_valL {D C:Addr} {mC:Str->Option Value} {Q:Value->Shared->Prop} {acc:List Value} (S:St B L m g s) (hD:∃ k,s.heap.get? D=some (listOf acc.toArray k)) (aD:Away B L g [D] s.heap) (aC:Away B L g [C] s.heap) (nC:s.heap.Ns C mC) (hDC:D≠C)
  (h:∀ s' o,OL acc o->g D=none->St B L m (put g D o) s'->Q (.ref D) s'):compPost (model PG w) A E none Q (.ref D) C (.ok .next) s:=by
 obtain ⟨k,hD⟩:=hD;obtain ⟨o,ol,S2,nD⟩:=takeL S hD aD;refine post_value S2 (aC.put1 hDC) nC hDC λs' S' _=>h _ _ ol nD S'
theorem sp_prepare {fl:List Env} (K:Kp B g s) (hr:Rm A 6) (hh:A.handled=none) (hF:A.frames=some fl) (hfl:FrOk B fl) (T:Srt w F₀ g x sdx d nodes .none po fi) (hz:nodes.length≤900) (hsuc:∀ nd∈nodes,nd.succ=[]∨∃ y,nd.succ=[y]∧y∈nodes.map (·.n)) :
  codeAny (model PG w) A (.call (.ref 92) ⟨[.ref x],[]⟩) (λr s'=>Ex2 λrl g'=>And3 (Srt w F₀ g' x sdx d nodes (.ref rl) po fi) (RdyAt F₀ g' nodes rl (ready0 (nodes.map Node.pn))) (((r=.ok (.ret .none)∧Kp B g' s'∧(nodes=[]∨Dead (nodes.map Node.pn)))∨(Ex2 λe c=>And3 (r=.error (.ref e)) (Fly B g' fl e 55 s') (Ring (nodes.map Node.pn) c))))) s:=by
 refine call_fnE (binds:=[(Str.ofString "self",.ref x)]) K hr hh hF (by rfl) (by kernel_rfl) (BindsTo.of_eq rfl) (by rfl) (λA L s hr hh hF S=>?_);intro _ _;refine in_envX ?_;intro _;walk_at "J";refine T.getR rfl S λs S=>?_;walk_at "J";refine o_isNotNone ?_;walk_at "J";refine x_iteF (by rfl) ?_;walk_at "J";refine r_listComp ?_;refine r_meth F.plainAttrs_dict F.slot_dict_values F.type_dict_values ?_;walk_at "J";refine T.getN ‹_› λs S=>?_;obtain ⟨oD,d3,d4⟩:=T.d_;refine ⟨⟨_,S.sub d3,d4.cls⟩,λa e=>by cases e;exact ⟨_,S.sub d3,d4.1.2.1⟩,?_⟩;walk_at "J";refine o_values S d3 d4 λs V S hV=>?_;have lk:(nodes.map λnd=>(nd.n,Value.ref nd.x)).length=nodes.length:=List.length_map ..;refine core_L S ((O_values S hh hV d3 d4).toG) (by exact n_t (n_e ‹_›) (n_t ‹_› (by decide))) (λi g' acc=>g=g'∧StrsAre acc (ready0 ((nodes.take i).map Node.pn))) ⟨rfl,.nil⟩ ?_ ?_ ?_ ?_
 ·rintro i g' acc ⟨_,h⟩;have h1:=h.len_eq;have h2:(ready0 ((nodes.take i).map Node.pn)).length≤((nodes.take i).map Node.pn).length:=by unfold ready0;rw [List.length_map];exact List.length_filter_le ..
  rw [List.length_map,List.length_take] at h2;exact om70 lk h1 h2
 ·rintro i g' acc ⟨rfl,_⟩ b hb o e;exact e
 ·rintro i v g' s B' C mC acc E' _ hi ⟨kk,hv⟩ ⟨rfl,hacc⟩ S;refine gq λ_ z1=>?_
  obtain ⟨nd,hnd,e1⟩:∃ nd,nodes[i]?=some nd∧v=.ref nd.x:=by
   rw [List.getElem?_map] at hv;cases q:nodes[i]? with
   |none=>rw [q] at hv;cases hv
   |some nd=>rw [q] at hv;cases hv;exact ⟨nd,rfl,rfl⟩
  subst e1;have hm:=List.mem_of_getElem? hnd;obtain ⟨od,osl,vs,t,t',k1,k2,k3,k4,k5⟩:=T.nd_ nd hm;refine z1 ?_;have hsn:=ready0_snoc (l:=nodes.take i) (nd:=nd);have htk:nodes.take (i + 1)=nodes.take i ++ [nd]:=by rw [List.take_add_one,hnd];rfl
  walk_at "J";refine ifs1 ?_;walk_at "J";refine n_getNp ‹_› k1 k2 λs S=>?_;walk_at "J";refine o_eqI ?_;walk_at "J"
  by_cases q:nd.np=0
  ·rw [if_pos (by simpa using q)];walk_at "J";refine n_getNode ‹_› k1 k2 λs S=>?_;walk_at "J";rw [htk,hsn,if_pos q];exact ⟨_,_,S,rfl,hacc.append' (.cons _ _ .nil)⟩
  ·rw [if_neg (by simpa using q)];walk_at "J";rw [htk,hsn,if_neg q,List.append_nil];exact ⟨_,_,‹_›,rfl,hacc⟩
 ·rintro s' D C mC g' acc ⟨rfl,hacc⟩ hD aD aC hDC nC S';refine fin_valL S' hD aD aC nC hDC λs o ol nD S=>?_;have nF:F₀ D=none:=none_sub nD T.sub;have T₁:=T.alloc (l:=D) (o:=o) nD;walk_at "J";refine T₁.setR ‹_› λs od' T₂ S=>?_;rw [lk,List.take_length] at hacc;have hDl:put g D o D=some o:=put_self ..
  have sD:sdx≠D:=by
   obtain ⟨od,mA,tp,tf,h1,h2,_⟩:=T.sd_;exact ne_none h1 nD
  have T₃:=T₂.weaken (F:=F₀) (Sub.put nF)
  have R₃:RdyAt F₀ (put (put g D o) sdx od') nodes D (ready0 (nodes.map Node.pn)):=
   ⟨⟨o,acc,by rw [put_ne sD.symm];exact hDl,ol,hacc⟩,nF,λnd hm=>(T.nd_ nd hm).ne nD |>.2⟩
  walk_at "J";refine MethodCall_ ?_;walk_at "J";refine T₃.meth ‹_› (λ_=>trivial) (by decide) (by kernel_rfl) (by rfl) (by kernel_rfl) ?_;walk_at "J";obtain ⟨B',fr',K',back⟩:=callF' hF hfl ‹_›;refine r_defCall (codeAny_mono (sp_fc K' (hr.le (by decide)) (.inl hh) hF fr' T₃ hz hsuc) λr s' hR=>?_);obtain ⟨v,g₃,rfl,K₃,sub₃,hv⟩:=hR;have S:=back _ _ K₃;have T₄:=T₃.subg sub₃;have R₄:=R₃.sub sub₃;dsimp only;walk_at "J";rcases hv with ⟨rfl,hd⟩|⟨lr,c,rfl,hc,nlr,hring⟩
  ·refine truthy_none ?_;walk_at "J";exact ⟨D,g₃,T₄,R₄,.inl ⟨rfl,St.kp ‹_›,hd⟩⟩
  ·obtain ⟨ol,vl,l1,l2,l3⟩:=hc;have lvl:=l3.len_eq;have hcl:c.length≤nodes.length + 1:=by obtain ⟨q,y,_,_,h,_⟩:=hring;rw [List.length_map] at h;exact h
   have hne:vl.isEmpty=false:=by
    obtain ⟨q,y,h,_⟩:=hring;have:0 < vl.length:=by rw [lvl,h];simp
    cases vl with
    |nil=>simp at this
    |cons=>rfl
   refine o_truthyL ‹_› l1 l2 (by exact om71 hz lk lvl hcl) λs S=>?_;rw [hne];walk_at "J";refine x_raise55 ‹_› hh (gl_tab _ (by with_unfolding_all rfl)) ?_;refine wpAny_JoinedStr_one ?_;walk_at "J";refine ⟨St.kp ‹_›,λh' e hx=>?_⟩;refine leave_fly ‹_› hF hfl rfl (by intro h;cases h) hx λs' Y=>?_;exact ⟨D,g₃,T₄,R₄,.inr ⟨e,c,rfl,Y,hring⟩⟩
end
section
variable {w:World} {B:Bs w} {A:Around} {L e:Addr} {m m':Str->Option Value} {F₀ g g':PH} {s:Shared} {env:Env} {E:Value->Shared->Prop} {pl:Sem Bool} {x sdx d rl:Addr} {nodes:List Node} {rv:Value} {po fi:Int} {rdy:List Str}
theorem r_cwStar {pos sp:Pos} {f:Value} {P:Heap->Prop} {first:List Value} {ex:Expr} {Q:Value->Shared->Prop} (hk:∀ h,P h->∃ k,(k=Keeper.frame∨k=Keeper.machine∨k=Keeper.boundFrame)∧Looks (model PG w) h (keeperOf f) k)
  (h:wpAny (model PG w) A (eval ex env) (λv s₁=>Ex5 λl o vs m g=>And6 (v=.ref l) (g l=some o) (OL vs o) (vs.length≤1000) (St (w:=w) B L m g s₁) (∀ s₂,St B L m g s₂->P s₂.heap∧wpAny (model PG w) A (call f (first ++ vs)) Q E s₂)) E s)
  (hb:backTo pos (starEach [.Starred ex sp] env)=[(true,do let v <-eval ex env;standAt pos;pure v)]:=by rfl) :
  wpAny (model PG w) A (callWith pos f first (backTo pos (starEach [.Starred ex sp] env)) []) Q E s:=by
 rw [hb];unfold callWith
 have he:wpAny (model PG w) A (evalArgs f true [(true,do let v <-eval ex env;standAt pos;pure v)] []) (λa s₂=>a.kw=[]∧P s₂.heap∧wpAny (model PG w) A (call f (first ++ a.pos)) Q E s₂) E s:=by
  unfold evalArgs;refine wpAny_bind (wpAny_bind (wpAny_mono h (λv s₁ h₁=>wpAny_bind (wpAny_standAt (wpAny_pure (wpAny_bind (wpAny_pure ?_))))) λ_ _ e=>e));obtain ⟨l,o,vs,m,g,rfl,hl,ol,hz,S,k⟩:=h₁;refine wpAny_holding ?_;rw [if_pos (by rfl)];refine wpAny_bind (wpAny_pure ?_);refine wpAny_bind ?_;dsimp only;unfold notIterableAtAll;refine wpAny_bind ?_;refine wpAny_bind (wpAny_specialOf (ol.typeIs (S.sub hl)) F.slot_list_iter.lookup ?_);refine wpAny_pure ?_;simp only [Bool.false_eq_true,if_false];obtain ⟨n,rfl⟩:=ol;refine wpAny_holding (wpAny_collect_seq l (.inl rfl) (S.sub hl) rfl rfl (λh' hk=>?_) (by rw [sizeLine_eq,List.size_toArray];exact n_t ‹_› (by decide)));have k':=k _ (S.grow hk s₁.toks);exact wpAny_pure ⟨rfl,k'.1,k'.2⟩
 refine wpAny_bind (wpAny_holding (wpAny_mono he (λa s₁ h₁=>wpAny_bind (wpAny_standAt ?_)) λ_ _ x=>x));refine gq λ_ z2=>?_;obtain ⟨hkw,hP,h₂⟩:=h₁;obtain ⟨k,hk',Lk⟩:=hk s₁.heap hP;obtain ⟨apos,akw⟩:=a;refine z2 ?_;dsimp only at hkw h₂ ⊢;subst hkw;refine wpAny_bind (Lk.here ?_)
 have tail:∀ {t:Sem Value},wpAny (model PG w) A t Q E s₁->wpAny (model PG w) A (t >>= λr=>holding [r] point >>= λ_=>pure r) Q E s₁:=
  λht=>wpAny_bind (wpAny_mono ht (λr s₂ hr=>wpAny_bind (wpAny_holding (wpAny_point (wpAny_pure hr)))) λ_ _ x=>x)
 have marked (mk:Value):wpAny (model PG w) A (callMarked mk f (first ++ apos) []) Q E s₁:=by unfold callMarked;exact Calls.wpAny_keep h₂
 rcases hk' with rfl|rfl|rfl <;> first|exact tail (marked _)|exact tail (wpAny_operate' h₂)
theorem r_methStar {o ex:Expr} {name:Str} {apos pos sp:Pos} {Q:Value->Shared->Prop}
  (h:wpAny (model PG w) A (eval o env) (λov s₁=>wpAny (model PG w) A (getAttr ov name true) (λf s₂=>wpAny (model PG w) A (callWith pos f [] (backTo pos (starEach [.Starred ex sp] env)) []) Q E s₂) E s₁) E s)
  (he:eval (.Call (.Attribute o name apos) [.Starred ex sp] [] pos) env=(do
   let ov <-eval o env
   standAt apos.atName
   let (f,first) <-holding [ov] (do pure (<-getAttr ov name true,[]))
   callWith pos f first (backTo pos (starEach [.Starred ex sp] env)) []):=by rfl) :
  wpAny (model PG w) A (eval (.Call (.Attribute o name apos) [.Starred ex sp] [] pos) env) Q E s:=by
 rw [he];refine wpAny_bind (wpAny_mono h (λov s₁ h₁=>wpAny_bind (wpAny_standAt ?_)) λ_ _ e=>e);exact wpAny_bind (wpAny_holding (wpAny_bind (wpAny_mono h₁ (λf s₂ h₂=>wpAny_pure h₂) λ_ _ e=>e)))
theorem Srt.bound (T:Srt w F₀ g x sdx d nodes rv po fi) (S:St B L m g s) {name:Str} {f:Addr} {ex:Bool} {Q:Value->Shared->Prop}
  (hn:name∉ksS) (hg:plainGet (HF w) 137 name=true) (hf:findIn (HF w) (.ref 137) name=some (some (.ref f))) (ht:isFn (HF w) (.ref f)=true) (hgf:specialIn (HF w) (.ref f) "__get__"=some (some (.builtin "function.__get__"))) (htk:takesIn (HF w) (.ref f)=some false) (hc:copiedNames.contains name=false)
  (h:∀ s' q,g q=none->St B L m (put g q (methodObj (.ref f) (.ref x))) s'->Q (.ref q) s'):wpAny (model PG w) A (getAttr (.ref x) name ex) Q E s:=by
 refine gq λ_ z3=>?_;obtain ⟨od,mA,tp,tf,h1,h2,_⟩:=T.sd_;refine z3 ?_
 have hno:lookIn name od=some none:=by
  rw [h2.look];obtain ⟨es,k,rfl,hs,hf'⟩:=h2;have:=hf' name;rw [getL_of_strs _ hs] at this;rw [<-Option.some.inj this];cases q:es.find? (·.key.isStr name) with
  |none=>rfl
  |some e=>
   have he:=List.find?_some q;have hm:=List.mem_of_find?_eq_some q;have:kStr e.key∈ksS.map some:=by rw [<-hs];exact List.mem_map.mpr ⟨e,hm,rfl⟩
   obtain ⟨k',hk',hkk⟩:=List.mem_map.mp this;rw [isStr_kStr hkk.symm] at he;exact absurd (by rw [<-beq_iff_eq.mp he];exact hk') hn
 have S₁:=S.toks (s.toks + 1)
 refine get_bind S.In (S.inst T.x_ h1) (plainGet_of hg).1 (findObj_fn (by kernel_rfl) hf hgf htk hc hno) (plainGet_of hg).2
  (wpAny_call (fn_get (s:={ s with toks:=s.toks + 1 }) S₁.In (beq_iff_eq.mp ht) (handed_on rfl (h _ _ (S.kp.fresh (Nat.le_refl _)) ?_))))
 exact S₁.alloc (methodObj (.ref f) (.ref x)) (s.toks + 1)
end
noncomputable def addsP (tbl:List (Str×Str)):List PN:=tbl.foldl (λps p=>addP ps p.2 p.1) []
theorem addsP_snoc (l:List (Str×Str)) (p:Str×Str):addsP (l ++ [p])=addP (addsP l) p.2 p.1:=by unfold addsP;rw [List.foldl_append];rfl
theorem mem_mapP {ps:List PN} {n:Str} {f:PN->PN} {p:PN} (h:p∈mapP ps n f):(p∈ps∧p.1≠n)∨∃ q∈ps,q.1=n∧p=f q:=by
 unfold mapP at h;obtain ⟨q,hq,rfl⟩:=List.mem_map.mp h
 by_cases e:q.1=n
 ·exact .inr ⟨q,hq,e,by rw [if_pos e]⟩
 ·exact .inl ⟨by rw [if_neg e];exact hq,by rw [if_neg e];exact e⟩
theorem mem_getN {ps:List PN} {n:Str} {p:PN} (h:p∈getN ps n):p∈ps∨p=(n,0,[]):=by
 unfold getN at h
 split at h
 ·exact .inl h
 ·rcases List.mem_append.mp h with h|h
  ·exact .inl h
  ·exact .inr (List.mem_singleton.mp h)
theorem suc_addP {ps:List PN} {a b:Str} {k:Nat} (h:∀ p∈ps,p.2.2.length≤k):∀ p∈addP ps a b,p.2.2.length≤k + 1:=by
 have h1:∀ {ps:List PN} {n:Str},(∀ p∈ps,p.2.2.length≤k)->∀ p∈getN ps n,p.2.2.length≤k:=λh p hp=>by
  rcases mem_getN hp with hp|rfl
  ·exact h _ hp
  ·exact Nat.zero_le _
 intro p hp;unfold addP at hp
 have h2:∀ p∈mapP (getN ps a) a (incP 1),p.2.2.length≤k:=λp hp=>by
  rcases mem_mapP hp with ⟨hp,_⟩|⟨q,hq,_,rfl⟩
  ·exact h1 h _ hp
  ·exact h1 h q hq
 rcases mem_mapP hp with ⟨hp,_⟩|⟨q,hq,_,rfl⟩
 ·exact Nat.le_succ_of_le (h1 h2 _ hp)
 ·show (q.2.2 ++ [a]).length≤_;rw [List.length_append];exact Nat.succ_le_succ (h1 h2 q hq)
theorem suc_addsP (l:List (Str×Str)):∀ k:Nat,k≤l.length->((∀ p∈addsP (l.take k),p.2.2.length≤k)∧(addsP (l.take k)).length≤2 * k)
 |0,_=>⟨λp h=>(nomatch (show p∈([]:List PN) from h)),Nat.le_refl _⟩
 |k + 1,h=>by
  obtain ⟨h1,h2⟩:=suc_addsP l k (by exact om72 h);obtain ⟨p,hp⟩:∃ p,l[k]?=some p:=⟨_,List.getElem?_eq_getElem (by exact om73 h)⟩;have e:l.take (k + 1)=l.take k ++ [p]:=by rw [List.take_add_one,hp];rfl
  rw [e,addsP_snoc];exact ⟨suc_addP h1,by have:=len_addP (addsP (l.take k)) p.2 p.1;exact om74 h2 this⟩
noncomputable def lapP (st:SS):Option SS:=
 if st.2.length≤60∧(∀ n∈st.2,n∈st.1.map (·.1))∧∀ p∈getReadyP st.1 st.2,p.2.2.length≤100 then st.2.foldlM doneOne (getReadyP st.1 st.2,[]) else none
noncomputable def lapsP:Nat->SS->Option (List (List Str))
 |0,_=>some []
 |n + 1,st=>(lapP st).bind λst'=>(lapsP n st').map (st.2 :: ·)
theorem lapsP_c {n:Nat} {st:SS}:lapsP (n + 1) st=(lapP st).bind λst'=>(lapsP n st').map (st.2 :: ·):=rfl
theorem lapsP_succ {n:Nat} {st:SS} {rds:List (List Str)} (h:lapsP (n + 1) st=some rds):Ex2 λst' r=>And3 (lapP st=some st') (lapsP n st'=some r) (rds=st.2 :: r):=by
 cases e:lapP st with
 |none=>rw [lapsP_c,e] at h;cases h
 |some st'=>
  rw [lapsP_c,e] at h;change Option.map _ _=_ at h;cases q:lapsP n st' with
  |none=>rw [q] at h;cases h
  |some r=>rw [q] at h;cases h;exact ⟨st',r,rfl,q,rfl⟩
theorem lapP_some {st st':SS} (h:lapP st=some st'):st.2.length≤60∧(∀ n∈st.2,n∈st.1.map (·.1))∧(∀ p∈getReadyP st.1 st.2,p.2.2.length≤100)∧st.2.foldlM doneOne (getReadyP st.1 st.2,[])=some st':=by
 unfold lapP at h
 split at h
 ·rename_i c;exact ⟨c.1,c.2.1,c.2.2,h⟩
 ·cases h
noncomputable def LL (g:PH) (l:Addr) (rds:List (List Str)):Prop:=Ex2 λo vs=>And4 (g l=some o) (OL vs o) (vs.length=rds.length) (∀ (i:Nat) r,rds[i]?=some r->∃ a,And3 (vs[i]?=some (.ref a)) (SL g a r) (a≠l))
section
variable {w:World} {B:Bs w} {A:Around} {L e:Addr} {m m':Str->Option Value} {F₀ g g':PH} {s:Shared} {env:Env} {E:Value->Shared->Prop} {pl:Sem Bool} {x sdx d rl:Addr} {nodes:List Node} {rv:Value} {po fi:Int} {rdy:List Str}
theorem LL.sub {l:Addr} {rds:List (List Str)} (h:LL g l rds) (k:Sub g g'):LL g' l rds:=by
 obtain ⟨o,vs,h1,h2,h3,h4⟩:=h;exact ⟨o,vs,k _ _ h1,h2,h3,λi r e=>let ⟨a,e1,e2,e3⟩:=h4 i r e;⟨a,e1,e2.sub k,e3⟩⟩
theorem LL.push {l a:Addr} {rds:List (List Str)} {r:List Str} {o o':Obj} {vs:List Value} (h:LL g l rds) (hl:g l=some o) (ol:OL vs o) (ol':OL (vs ++ [.ref a]) o') (ha:SL g a r) (hal:a≠l):LL (put g l o') l (rds ++ [r]):=by
 obtain ⟨o₁,vs₁,h1,h2,h3,h4⟩:=h;rw [hl] at h1;cases h1;obtain ⟨n,e1⟩:=ol;obtain ⟨n',e2⟩:=h2;have:vs=vs₁:=by rw [e1] at e2;injection e2 with _ _ e _;injection e with e _;simpa using e
 subst this;refine ⟨o',vs ++ [.ref a],put_self ..,ol',by rw [List.length_append,List.length_append,h3];rfl,λi r' e=>?_⟩;rw [List.getElem?_append] at e
 split at e
 ·rename_i hlt
  obtain ⟨b,e1,⟨ob,vb,b1,b2,b3⟩,e3⟩:=h4 i r' e;exact ⟨b,by rw [List.getElem?_append_left (by exact Nat.lt_of_lt_of_eq ‹_› (Eq.symm ‹_›))];exact e1,⟨ob,vb,(put_ne e3).trans b1,b2,b3⟩,e3⟩
 ·rename_i hge
  have hi:i=rds.length:=by
   have:=(List.getElem?_eq_some_iff.mp e).1;simp at this;exact om75 hge this
  subst hi;simp at e;subst e;obtain ⟨ob,vb,b1,b2,b3⟩:=ha;exact ⟨a,by rw [List.getElem?_append_right (by exact n_e ‹_›)];simp [h3],⟨ob,vb,(put_ne hal).trans b1,b2,b3⟩,hal⟩
theorem Srt.turn (T:Srt w F₀ g x sdx d nodes rv po fi) {a:Addr} {o o':Obj} (ha:F₀ a=some o):Srt w (put F₀ a o') (put g a o') x sdx d nodes rv po fi:=by
 obtain ⟨od,mA,tp,tf,k1,k2⟩:=T.sd_;obtain ⟨o₁,k3,k4⟩:=T.d_;have ne:∀ {b},F₀ b=none->b≠a:=λe=>by rintro rfl;rw [e] at ha;cases ha
 refine ⟨(put_ne (ne T.fx)).trans T.x_,⟨od,mA,tp,tf,(put_ne (ne T.fs)).trans k1,k2⟩,⟨o₁,(put_ne (ne T.fd)).trans k3,k4⟩,λnd hm=>(T.nd_ nd hm).put (ne (T.fn nd hm).1) (ne (T.fn nd hm).2),T.nx,T.nsl,T.sd_d,λb y e=>?_,
  (put_ne (ne T.fx)).trans T.fx,(put_ne (ne T.fs)).trans T.fs,(put_ne (ne T.fd)).trans T.fd,λnd hm=>⟨(put_ne (ne (T.fn nd hm).1)).trans (T.fn nd hm).1,(put_ne (ne (T.fn nd hm).2)).trans (T.fn nd hm).2⟩⟩
 by_cases hb:b=a
 ·subst hb;rw [put_self] at e ⊢;exact e
 ·rw [put_ne hb] at e ⊢;exact T.sub _ _ e
theorem RdyAt.turn (R:RdyAt F₀ g nodes rl rdy) {a:Addr} {o o':Obj} (ha:F₀ a=some o):RdyAt (put F₀ a o') (put g a o') nodes rl rdy:=by
 have ne:rl≠a:=by rintro rfl;rw [R.f] at ha;cases ha
 obtain ⟨ob,vb,b1,b2,b3⟩:=R.l;exact ⟨⟨ob,vb,(put_ne ne).trans b1,b2,b3⟩,(put_ne ne).trans R.f,R.sl⟩
theorem o_listT {t:Addr} {o:Obj} {vs:List Value} {Q:Value->Shared->Prop} (S:St B L m g s) (ht:g t=some o) (ot:OT vs o) (hz:vs.length≤1000)
  (h:∀ s' l o',OL vs o'->g l=none->St B L m (put g l o') s'->Q (.ref l) s'):wpAny (model PG w) A (call (.type "list") [.ref t]) Q E s:=by
 obtain ⟨a,n,hdt⟩:=ot;refine call_list_seq t (.inr rfl) (S.sub ht) a hdt (λh' c' hk ho=>?_) (by rw [sizeLine_eq,List.size_toArray];exact n_t ‹_› (by decide));have hz':=S.kp.size;have S':St B L m g { s with heap:=h' }:=S.grow hk s.toks;exact h _ _ _ ⟨c',rfl⟩ (S.kp.fresh (Nat.le_refl _)) (S'.take ho (S.kp.freshB (Nat.le_refl _)) (Nat.ne_of_gt S.ns.lt) (Nat.ne_of_gt hz'.1) (Nat.ne_of_gt hz'.2))
end
theorem lookup_of_get {l:List (Str×Str)} (hn:(l.map (·.1)).Nodup) {i:Nat} {p:Str×Str} (h:l[i]?=some p):l.lookup p.1=some p.2:=by
 induction l generalizing i with
 |nil=>simp at h
 |cons q r ih=>
  rw [List.map_cons,List.nodup_cons] at hn;cases i with
  |zero=>rw [List.getElem?_cons_zero] at h;cases h;rw [List.lookup_cons,beq_self_eq_true]
  |succ i=>
   rw [List.getElem?_cons_succ] at h;have hne:p.1≠q.1:=λe=>hn.1 (by rw [<-e];exact List.mem_map.mpr ⟨p,List.mem_of_getElem? h,rfl⟩);have:(p.1 == q.1)=false:=by simpa using hne
   rw [List.lookup_cons,this];exact ih hn.2 h
section
variable {w:World} {B:Bs w} {A:Around} {L e:Addr} {m m':Str->Option Value} {F₀ g g':PH} {s:Shared} {env:Env} {E:Value->Shared->Prop} {pl:Sem Bool} {x sdx d rl:Addr} {nodes:List Node} {rv:Value} {po fi:Int} {rdy:List Str}
theorem x_tryCut {body:List Stmt} {h₀:ExceptHandler} {hs:List ExceptHandler} {pos:Pos} {rest:List Stmt} {Q:Flow->Shared->Prop} (MID:Shared->Prop)
  (h:∀ R1:Flow->Shared->Prop,(∀ f s₁,(match f with|.next=>MID s₁|f=>Q f s₁)->R1 f s₁)->∀ E1:Value->Shared->Prop,
   (∀ e s₁,wpAny (model PG w) A (noteFrame e env) (λ_ s₂=>wpAny (model PG w) A (setFlight e none) (λ_ s₃=>wpAny (model PG w) A (handleBy e env (h₀ :: hs)) R1 E s₃) E s₂) E s₁->E1 e s₁)->wpAny (model PG w) A (execs body env) R1 E1 s)
  (k:∀ s,MID s->wpAny (model PG w) A (execs rest env) Q E s) :
  wpAny (model PG w) A (execs (.Try body (h₀ :: hs) [] [] pos :: rest) env) Q E s:=
 x_tryE λR1 hR1 E1 hE1=>h R1 (λf s h=>hR1 f s (by
  cases f with
  |next=>exact k _ h
  |_=>exact h)) E1 hE1
theorem sp_came {fl:List Env} {dS:Addr} {tbl:List (Str×Str)} {rds:List (List Str)} (K:Kp B g s) (hr:Rm A 9) (hh:A.handled=none) (hF:A.frames=some fl) (hfl:FrOk B fl) (hd:SD w g dS tbl) (hN:tbl.length≤20)
  (hsuc:∀ p∈addsP tbl,p.2.2=[]∨∃ y,p.2.2=[y]∧y∈(addsP tbl).map (·.1)) (hx:(∀ c,¬ Ring (addsP tbl) c)∨(addsP tbl≠[]∧¬ Dead (addsP tbl)))
  (hl:lapsP tbl.length (addsP tbl,ready0 (addsP tbl))=some rds) :
  codeAny (model PG w) A (.call (.ref 312) ⟨[.ref dS],[]⟩) (λr s'=>Ex5 λU lR lr ring g'=>And9 (r=.ok (.ret (.ref U))) (s'.heap.IsTuple U [Value.ref lR,Value.ref lr].toArray) (Kp B g' s') (Sub g g') (LL g' lR rds) (SL g' lr ring) (g lR=none) (g lr=none) (((ring=[]∧(addsP tbl=[]∨Dead (addsP tbl)))∨Ring (addsP tbl) ring))) s:=by
 refine call_fnF (binds:=[(Str.ofString "sent",.ref dS)]) K hr hh hF (by rfl) (by kernel_rfl) (BindsTo.of_eq rfl) (by rfl) (λA L s E hr hh hF S=>?_);intro _ _;refine in_envX ?_;intro _;have sz:=sizeLine_eq;obtain ⟨oS,kvS,hS1,hS2,hS3⟩:=id hd;have lS:=hS3.len;have hkeys:=hS3.keys;walk_at "J";refine c_make (C:=137) ‹_› (by kernel_rfl) (by rfl) (by kernel_rfl) λx dx s S n1 n2 n3=>?_;refine S.call λr K₁ back=>?_;have hx':=put_self (g:=put g dx emptyDict) (a:=x) (o:=ins 137 dx #[]);have hd':put (put g dx emptyDict) x (ins 137 dx #[]) dx=some emptyDict:=(put_ne n3).trans (put_self ..);have sub₁:Sub g (put (put g dx emptyDict) x (ins 137 dx #[])):=(Sub.put n1).trans (Sub.put ((put_ne n3.symm).trans n2));refine codeAny_mono (sp_sinit (F₀:=g) K₁ (Rm.make hr |>.le (by decide)) hh hx' hd' n3 n2 n1 sub₁) λr s' hR=>?_
 obtain ⟨d,g₁,rfl,K',T⟩:=hR;have S:=back _ _ K';refine ⟨rfl,?_⟩;walk_at "J"
 refine for_O (O_dict ‹_› hh (sysNe ‹_› (T.sub _ _ hS1)) (.inl (T.sub _ _ hS1)) hS2) (λi m' g'=>∃ nodes,And4 (Srt w g g' x dx d nodes .none 0 0) (nodes.map Node.pn=addsP (tbl.take i)) (m' (Str.ofString "sent")=some (.ref dS)) (m' (Str.ofString "sorter")=some (.ref x))) (λ_ _ _=>False)
  ⟨[],T,rfl,by walk_at "J.m",by walk_at "J.m"⟩ ?_ ?_ ?_ (λ_ _ _ _ h=>h.elim)
 ·rintro i m' g' ⟨_,T',_⟩;exact keep1 (T.sub _ _ hS1) (T'.sub _ _ hS1)
 ·rintro i v m' g' s₁ B' E₁ _ hi ⟨y,xv,ty,hy,rfl⟩ ⟨nodes,T,hp,h1,h2⟩ S;rw [lS] at hi;obtain ⟨p,hpp⟩:∃ p,tbl[i]?=some p:=⟨_,List.getElem?_eq_getElem hi⟩
  have hpy:p.1=y:=by
   have h3:=congrArg (·[i]?) hkeys;simp only [List.getElem?_map,hy,hpp,Option.map_some] at h3;exact (Option.some.inj h3).symm
  have hlk:tbl.lookup y=some p.2:=by
   obtain ⟨_,es,ep,_,_,_,hnd⟩:=id hS2;rw [hkeys] at hnd;rw [<-hpy];exact lookup_of_get hnd hpp
  have hsz:=suc_addsP tbl i (by exact Nat.le_of_lt ‹_›);rw [<-hp,List.length_map] at hsz;walk_at "J";refine MethodCall_ ?_;walk_at "J";refine T.meth ‹_› (λ_=>trivial) (by decide) (by kernel_rfl) (by rfl) (by kernel_rfl) ?_;walk_at "J";refine t_sd ‹_› (hd.sub T.sub) hlk λs u S=>?_;walk_at "J";refine St.call ‹_› λr K₁ back=>?_;refine r_defCall (codeAny_mono (sp_add K₁ (hr.le (by decide)) hh T (by omega) (λnd hm=>by have:=hsz.1 nd.pn (List.mem_map.mpr ⟨nd,hm,rfl⟩);have h9:nd.pn.2.2=nd.succ:=rfl;rw [h9] at this;exact om76 hN lS hi this)) λr s' hR=>?_);obtain ⟨nodes',g₂,rfl,K',T',e⟩:=hR;have S:=back _ _ K';dsimp only;walk_at "J";refine ⟨_,_,‹_›,nodes',T',?_,by walk_at "J.m",by walk_at "J.m"⟩;rw [e,hp,List.take_add_one,hpp,<-hpy];exact (addsP_snoc _ _).symm
 ·rintro m' g' s₁ E₁ ⟨nodes,T,hp,h1,h2⟩ S;rw [lS,List.take_length] at hp;walk_at "J";dsimp only;refine x_swap2 (x:=Str.ofString "ring") (y:=Str.ofString "rounds") ?hh ?_ ?hs ?hw
  ((case hs=>rfl);(case hw=>with_unfolding_all rfl);(case hh=>assumption))
  walk_at "J";refine n_list S λs lr or_ olr nr _ _ S=>?_;walk_at "J";refine n_list ‹_› λs lR oR olR nR _ _ S=>?_;walk_at "J";refine n_tuple ‹_› λs l hlt S=>?_;refine ⟨l,_,_,_,_,_,_,rfl,hlt,S,λs S=>?_⟩;walk_at "J";have nrg:g lr=none:=none_sub nr T.sub;have nRr:lr≠lR:=ne_none (put_self ..) nR;have nRg':g' lR=none:=by rw [put_ne nRr.symm] at nR;exact nR
  have nRg:g lR=none:=none_sub nRg' T.sub;have T₁:=(T.alloc (l:=lr) (o:=or_) nr).alloc (l:=lR) (o:=oR) nR;have F1:Sub g (put (put g lr or_) lR oR):=(Sub.put nrg).trans (Sub.put ((put_ne nRr.symm).trans nRg));refine x_tryCut (λs=>Ex9 λm' g' F' nodes rl lr ring po fi=>And14 (St B L m' g' s) (Srt w F' g' x dx d nodes (.ref rl) po fi) (RdyAt F' g' nodes rl (ready0 (addsP tbl))) (nodes.map Node.pn=addsP tbl) (Sub g F') (SL F' lr ring) (LL F' lR []) (g lr=none) (lr≠lR) (((ring=[]∧(addsP tbl=[]∨Dead (addsP tbl)))∨Ring (addsP tbl) ring)) (m' (Str.ofString "sent")=some (.ref dS)) (m' (Str.ofString "sorter")=some (.ref x)) (m' (Str.ofString "rounds")=some (.ref lR)) (m' (Str.ofString "ring")=some (.ref lr))) ?_ ?_
  ·walk_at "J";refine MethodCall_ ?_;walk_at "J";refine T₁.meth ‹_› (λ_=>trivial) (by decide) (by kernel_rfl) (by rfl) (by kernel_rfl) ?_;walk_at "J";obtain ⟨B',fr',K₁,back⟩:=callF' hF hfl ‹_›
   have hsuc':∀ nd∈nodes,nd.succ=[]∨∃ y,nd.succ=[y]∧y∈nodes.map (·.n):=λnd hm=>by
    have h9:=hsuc nd.pn (by rw [<-hp];exact List.mem_map.mpr ⟨nd,hm,rfl⟩);have h8:nodes.map (·.n)=(addsP tbl).map (·.1):=by rw [<-hp,List.map_map];rfl
    rw [h8];exact h9
   have hnl:nodes.length≤900:=by
    have h9:=(suc_addsP tbl tbl.length (Nat.le_refl _)).2;rw [List.take_length,<-hp,List.length_map] at h9;exact om77 hN lS h9
   refine r_defCall (codeAny_mono (sp_prepare K₁ (hr.le (by decide)) hh hF fr' T₁ hnl hsuc') λr s' hR=>?_);obtain ⟨rl,g₃,T₃,R₃,hR⟩:=hR;rw [hp] at R₃ hR;have hlr:put (put g lr or_) lR oR lr=some or_:=(put_ne nRr).trans (put_self ..);rcases hR with ⟨rfl,K₃,hdead⟩|⟨e,c,rfl,Y,hc⟩
   ·have S:=back _ _ K₃;dsimp only;walk_at "J";refine ⟨_,_,_,nodes,rl,lr,[],_,_,‹_›,T₃,R₃,hp,F1,⟨or_,[],hlr,olr,.nil⟩,⟨oR,[],put_self ..,olR,rfl,λi r h=>by simp at h⟩,nrg,nRr,.inl ⟨rfl,?_⟩,by walk_at "J.m",by walk_at "J.m",by walk_at "J.m",by walk_at "J.m"⟩;refine hdead.imp (λh=>by rw [<-hp,h];rfl) id
   ·dsimp only;walk_at "J";refine caughtO (λs' K=>back s' _ K) hF rfl Y (gl_tab _ (by with_unfolding_all rfl)) λs S=>?_;walk_at "J";refine MethodCall_ ?_;walk_at "J";refine T₃.meth ‹_› (λ_=>trivial) (by decide) (by kernel_rfl) (by rfl) (by kernel_rfl) ?_;walk_at "J";obtain ⟨B₂,fr₂,K₂,back₂⟩:=callF' (A:=A.mark (some (.ref e))) hF hfl ‹_›;have hnd:addsP tbl≠[]∧¬ Dead (addsP tbl):=hx.resolve_left λh=>h c hc;refine r_defCall (codeAny_mono (sp_fc K₂ ((show Rm (A.mark (some (.ref e))) 8 from ⟨hr.d,hr.u⟩).le (by decide)) (.inr ⟨λh=>hnd.1 (by rw [<-hp,h];rfl),by rw [hp];exact hnd.2⟩) hF fr₂ T₃ hnl hsuc') λr s' hR=>?_);refine gq λ_ z10=>?_;obtain ⟨v,g₄,rfl,K₄,sub₄,hv⟩:=hR;have S:=back₂ _ _ K₄;rw [hp] at hv
    obtain ⟨lr',c',rfl,hc1,hc2,hc3⟩:Ex2 λlr' c'=>And4 (v=.ref lr') (SL g₄ lr' c') (g₃ lr'=none) (Ring (addsP tbl) c'):=by
     rcases hv with ⟨rfl,h|h⟩|h
     ·exact absurd (by rw [<-hp,h];rfl) hnd.1
     ·exact absurd h hnd.2
     ·exact h
    refine z10 ?_;dsimp only;walk_at "J";obtain ⟨oc,vc,c1,c2,c3⟩:=hc1
    have sub₅:Sub (put g₃ lr' oc) g₄:=λb o h=>by
     by_cases hb:b=lr'
     ·subst hb;rw [put_self] at h;cases h;exact c1
     ·rw [put_ne hb] at h;exact sub₄ _ _ h
    have T₄:=(T₃.alloc (l:=lr') (o:=oc) hc2).subg sub₅;have R₄:=(R₃.alloc (l:=lr') (o:=oc) hc2).sub sub₅;have nF':put (put g lr or_) lR oR lr'=none:=none_sub hc2 T₃.sub;have nRr':lr'≠lR:=(ne_none (put_self ..) nF').symm;exact ⟨_,_,_,nodes,rl,lr',c',_,_,‹_›,T₄,R₄,hp,F1.trans (Sub.put nF'),⟨oc,vc,put_self ..,c2,c3⟩,⟨oR,[],(put_ne nRr'.symm).trans (put_self ..),olR,rfl,λi r h=>by simp at h⟩,none_sub nF' F1,nRr',.inr hc3,by walk_at "J.m",by walk_at "J.m",by walk_at "J.m",by walk_at "J.m"⟩
  ·rintro s ⟨m',g',F',nodes,rl,lr,ring,po,fi,S,T,R,hp,hgF,hrl,hll,nr,hne,hring,h1,h2,h3,h4⟩;walk_at "J";have hS1':=T.sub _ _ (hgF _ _ hS1)
   refine for_O (O_dict ‹_› hh (sysNe ‹_› hS1') (.inl hS1') hS2) (λi m' g'=>Ex5 λF' nodes st po fi=>And11 (Srt w F' g' x dx d nodes (.ref rl) po fi) (RdyAt F' g' nodes rl st.2) (nodes.map Node.pn=st.1) (Sub g F') (SL F' lr ring) (LL F' lR (rds.take i)) (lapsP (tbl.length - i) st=some (rds.drop i)) (m' (Str.ofString "sent")=some (.ref dS)) (m' (Str.ofString "sorter")=some (.ref x)) (m' (Str.ofString "rounds")=some (.ref lR)) (m' (Str.ofString "ring")=some (.ref lr))) (λ_ _ _=>False)
    ⟨F',nodes,(addsP tbl,ready0 (addsP tbl)),po,fi,T,R,hp,hgF,hrl,hll,hl,by walk_at "J.m",by walk_at "J.m",by walk_at "J.m",by walk_at "J.m"⟩ ?_ ?_ ?_ (λ_ _ _ _ h=>h.elim)
   ·rintro i m' g' ⟨F',_,_,_,_,T',_,_,hgF',_⟩;exact keep1 (hS1') (T'.sub _ _ (hgF' _ _ hS1))
   ·clear h1 h2 h3 h4 hrl hll hgF hp R T S hS1';rintro i v m' g' s₁ B' E₁ hB hi - ⟨F',nodes,⟨ps,rdy⟩,po,fi,T,R,hp,hgF,hrl,hll,hlp,h1,h2,h3,h4⟩ S;rw [lS] at hi;refine gq λ_ z12=>?_;obtain ⟨k,hk⟩:∃ k,tbl.length - i=k + 1:=⟨tbl.length - i - 1,by exact om78 lS hi⟩;rw [hk] at hlp;obtain ⟨st',rr,e1,e2,e3⟩:=lapsP_succ hlp;obtain ⟨q1,q2,q3,q4⟩:=lapP_some e1;refine z12 ?_;dsimp only at hp R q1 q2 q3 q4 e3
    have hrd:rds[i]?=some rdy:=by
     have h9:=congrArg (·[0]?) e3
     simpa using h9
    have hdr:rds.drop (i + 1)=rr:=by
     have h9:=congrArg List.tail e3
     simpa using h9
    walk_at "J";refine r_meth F.plainAttrs_list F.slot_list_append F.type_list_append ?_;walk_at "J";obtain ⟨oR,vR,L1,L2,L3,L4⟩:=id hll;have hgR:=T.sub _ _ L1;refine ⟨L2.typeIs (St.sub ‹_› hgR),λa e=>by cases e;exact ⟨_,St.sub ‹_› hgR,by obtain ⟨n,rfl⟩:=L2;rfl⟩,?_⟩;walk_at "J";refine MethodCall_ ?_;walk_at "J";refine T.meth ‹_› (λ_=>trivial) (by decide) (by kernel_rfl) (by rfl) (by kernel_rfl) ?_;walk_at "J";refine St.call ‹_› λr K₁ back=>?_
    have hin:∀ n∈rdy,n∈nodes.map (·.n):=λn hn=>by
     have h8:nodes.map (·.n)=ps.map (·.1):=by rw [<-hp,List.map_map];rfl
     rw [h8];exact q2 n hn
    refine r_defCall (codeAny_mono (sp_getReady K₁ (hr.le (by decide)) hh T R (by exact n_t ‹_› (by decide)) hin) λr s' hR=>?_);obtain ⟨U,oU,vU,nodes₂,g₂,po₂,rfl,K₂,otU,hvU,hU,T₂,R₂,hp₂⟩:=hR;have S:=back _ _ K₂;rw [hp] at hp₂;have lvU:=hvU.len_eq;dsimp only;walk_at "J";refine o_listT ‹_› hU otU (by exact n_t (n_e ‹_›) (n_t ‹_› (by decide))) λs la ola olA nla S=>?_;have T₃:=T₂.alloc (l:=la) (o:=ola) nla;have R₃:=R₂.alloc (l:=la) (o:=ola) nla;have nFa:F' la=none:=none_sub nla T₂.sub;have hRa:put F' la ola lR=some oR:=put_of nFa L1;have nal:la≠lR:=(ne_none L1 nFa).symm;walk_at "J";have lvR:vR.length≤100:=by rw [L3,List.length_take];exact om79 hN lS hi
    refine o_append ‹_› (T₃.sub _ _ hRa) L2 (by exact n_t ‹_› (by decide)) λs oR' olR' S=>?_;have T₄:=T₃.turn (o':=oR') hRa;have R₄:=R₃.turn (o':=oR') hRa;have hll':=(LL.sub hll (Sub.put (o:=ola) nFa)).push hRa L2 olR' ⟨ola,vU,put_self ..,olA,hvU⟩ nal
    have hgF':Sub g (put (put F' la ola) lR oR'):=λb o h=>by
     rw [put_ne (ne_none h nRg)];exact (Sub.put nFa) _ _ (hgF _ _ h)
    have hrl':SL (put (put F' la ola) lR oR') lr ring:=by
     obtain ⟨ob,vb,b1,b2,b3⟩:=hrl;exact ⟨ob,vb,(put_ne hne).trans (put_of nFa b1),b2,b3⟩
    walk_at "J";refine r_methStar ?_;walk_at "J";refine T₄.bound ‹_› (f:=120) (by decide) (by kernel_rfl) (by rfl) (by kernel_rfl) (by kernel_rfl) (by kernel_rfl) (by decide +kernel) λs q nq S=>?_;have T₅:=T₄.subg (Sub.put (o:=methodObj (.ref 120) (.ref x)) nq);have R₅:=R₄.sub (Sub.put (o:=methodObj (.ref 120) (.ref x)) nq);refine r_cwStar (B:=B') (L:=L) (P:=MethP (HF w) q 120 (.ref x)) (λh X=>keeps_M (by kernel_rfl) h X) ?_;walk_at "J";refine o_negI ‹_› λs tk S=>?_;walk_at "J";have hlR:put (put (put g₂ la ola) lR oR') q (methodObj (.ref 120) (.ref x)) lR=some oR':=T₅.sub _ _ (put_self ..);refine t_itemNeg (v:=.ref la) (olR'.isList (S.sub hlR)) (by decide) (by simp;exact om80 L3 lvR) (by decide) ?_ ?_
    ·rw [List.length_append,List.length_singleton,show (-1 + ((vR.length + 1:Nat):Int)).toNat=vR.length from by exact om81 L3 lvR,List.getElem?_append_right (Nat.le_refl _)];simp
    have hla:put (put (put g₂ la ola) lR oR') q (methodObj (.ref 120) (.ref x)) la=some ola:=T₅.sub _ _ ((put_ne nal).trans (put_self ..));refine ⟨la,ola,vU,_,_,rfl,hla,olA,by exact n_t (n_e ‹_›) (n_t ‹_› (by decide)),S,λs S=>⟨⟨S.sub (put_self ..),S.In⟩,?_⟩⟩;refine S.call λr K₁ back=>?_;rw [<-hp₂] at q4 q3;refine wpAny_call (method_call (S.sub (put_self ..)) (codeAny_mono (sp_done K₁ (hr.le (by decide)) hh T₅ R₅ hvU q1 (by simp) q3 q4) λr s' hR=>?_));obtain ⟨nodes₃,g₃,fi₃,rfl,K₃,T₆,R₆,hp₃⟩:=hR;have S:=back _ _ K₃;dsimp only;walk_at "J";refine ⟨_,_,‹_›,_,nodes₃,st',_,_,T₆,R₆,hp₃,hgF',hrl',?_,?_,by walk_at "J.m",by walk_at "J.m",by walk_at "J.m",by walk_at "J.m"⟩
    ·rw [List.take_add_one,hrd];exact hll'
    ·rw [hdr,show tbl.length - (i + 1)=k from by omega];exact e2
   ·rintro m' g' s₁ E₁ ⟨F',nodes,st,po,fi,T,R,hp,hgF,hrl,hll,hlp,h1,h2,h3,h4⟩ S;rw [lS,Nat.sub_self] at hlp
    have hrl2:rds.length≤tbl.length:=by
     have h9:=congrArg (Option.map List.length) hlp;change some 0=some (rds.drop _).length at h9;rw [List.length_drop,Option.some.injEq] at h9;exact om82 lS h9
    rw [lS,List.take_of_length_le hrl2] at hll;walk_at "J";refine n_tuple ‹_› λs U hU S=>?_;walk_at "J";exact ⟨U,lR,lr,ring,g',rfl,hU,S.kp,hgF.trans T.sub,hll.sub T.sub,hrl.sub T.sub,nRg,nr,hring⟩
end
noncomputable def sRoot:Str:=Str.ofString "root"
noncomputable def sPm:Str:=Str.ofString "parent_map"
section
variable {w:World} {B:Bs w} {A:Around} {L e:Addr} {m m':Str->Option Value} {F₀ g g':PH} {s:Shared} {env:Env} {E:Value->Shared->Prop} {pl:Sem Bool} {x dx d:Addr}
theorem x_set {od:Obj} {ks:List Str} {mA:Str->Option Value} {name:Str} {v:Value} {Q:Unit->Shared->Prop} (S:St B L m g s) (hx:g x=some (ins 278 dx #[])) (hd:g dx=some od) (oa:OA ks mA od) (hz:ks.length < 400) (hk:name=sRoot∨name=sPm)
  (h:∀ s' od',OA (kadd ks name) (up mA name v) od'->St B L m (put g dx od') s'->Q () s'):wpAny (model PG w) A (setAttr (.ref x) name v) Q E s:=by
 have key:takerIn (HF w) 278 name=some none:=by
  rcases hk with rfl|rfl <;> kernel_rfl
 exact i_set S hx hd oa hz (by kernel_rfl) (by kernel_rfl) key (by kernel_rfl) h
theorem sp_xinit {v:Value} (K:Kp B g s) (hr:Rm A 2) (hh:A.handled=none) (hx:g x=some (ins 278 dx #[])) (hd:g dx=some emptyDict) :
  codeAny (model PG w) A (.call (.ref 275) ⟨[.ref x,v],[]⟩) (λr s'=>∃ od,And3 (r=.ok (.ret .none)) (OA [sRoot] (up (λ_=>none) sRoot v) od) (Kp B (put g dx od) s')) s:=by
 refine call_fnA (binds:=[(Str.ofString "self",.ref x),(Str.ofString "root",v)]) K hr hh (by rfl) (by kernel_rfl) (BindsTo.of_eq rfl) (by rfl) (λA L s E hr hh S=>?_);intro _ _;refine in_envX ?_;intro _;walk_at "J";refine x_set S hx hd OA.nil (by decide) (.inl rfl) λs od oa S=>?_;walk_at "J";exact ⟨od,rfl,oa,St.kp ‹_›⟩
theorem x_getPm {od:Obj} {mA:Str->Option Value} {ks:List Str} {ex:Bool} {Q:Value->Shared->Prop} (S:St B L m g s) (hx:g x=some (ins 278 dx #[])) (hd:g dx=some od) (oa:OA ks mA od) (hv:mA sPm=none)
  (h:∀ s',St B L m g s'->Q .none s'):wpAny (model PG w) A (getAttr (.ref x) sPm ex) Q E s:=
 get_value S.In (S.inst hx hd) (by kernel_rfl) (findObj_cls (by kernel_rfl) (by kernel_rfl) (by kernel_rfl) rfl (by decide +kernel) (by rw [oa.look,hv])) rfl (h _ (S.toks _))
end
noncomputable def sIter:Str:=Str.ofString "iter"
noncomputable def RowsAt (g:PH) (rows:List (Addr×List Str)):Prop:=∀ p∈rows,SL g p.1 p.2
noncomputable def putRow (kvs:List (Str×Value)) (rl:Addr) (row:List Str):List (Str×Value):=row.foldl (λkvs n=>stored kvs n (.ref rl)) kvs
noncomputable def putRows (kvs:List (Str×Value)) (rows:List (Addr×List Str)):List (Str×Value):=rows.foldl (λkvs p=>putRow kvs p.1 p.2) kvs
theorem fn_iter:typeLookup (.type "function") sIter=pure none:=by rw [typeLookup_type];kernel_rfl
section
variable {w:World} {B:Bs w} {A:Around} {L e:Addr} {m m':Str->Option Value} {F₀ g g':PH} {s:Shared} {env:Env} {E:Value->Shared->Prop} {pl:Sem Bool} {x dx d:Addr}
theorem put_same {a:Addr} {o:Obj} (h:g a=some o):put g a o=g:=by
 funext b
 by_cases q:b=a
 ·subst q;rw [put_self,h]
 ·exact put_ne q
theorem putRows_snoc (kvs:List (Str×Value)) (l:List (Addr×List Str)) (p:Addr×List Str):putRows kvs (l ++ [p])=putRow (putRows kvs l) p.1 p.2:=by unfold putRows;rw [List.foldl_append];rfl
theorem putRow_snoc (kvs:List (Str×Value)) (rl:Addr) (l:List Str) (n:Str):putRow kvs rl (l ++ [n])=stored (putRow kvs rl l) n (.ref rl):=by unfold putRow;rw [List.foldl_append];rfl
theorem len_stored (kvs:List (Str×Value)) (k:Str) (v:Value):(stored kvs k v).length≤kvs.length + 1:=by unfold stored;split <;> simp
theorem len_putRow (rl:Addr):∀ (row:List Str) (kvs:List (Str×Value)),(putRow kvs rl row).length≤kvs.length + row.length
 |[],kvs=>Nat.le_refl _
 |n :: r,kvs=>by
  have h1:=len_putRow rl r (stored kvs n (.ref rl));have h2:=len_stored kvs n (.ref rl);have h3:putRow kvs rl (n :: r)=putRow (stored kvs n (.ref rl)) rl r:=rfl;rw [h3,List.length_cons];exact om83 h1 h2
theorem len_putRows:∀ (rows:List (Addr×List Str)) (kvs:List (Str×Value)),(∀ p∈rows,p.2.length≤100)->(putRows kvs rows).length≤kvs.length + 100 * rows.length
 |[],kvs,_=>Nat.le_refl _
 |p :: r,kvs,h=>by
  have h1:=len_putRows r (putRow kvs p.1 p.2) λq hq=>h q (.tail _ hq);have h2:=len_putRow p.1 p.2 kvs;have h4:=h p (.head _);have h3:putRows kvs (p :: r)=putRows (putRow kvs p.1 p.2) r:=rfl;rw [h3,List.length_cons];exact om84 h1 h2 h4
theorem a_attr {o:Expr} {attr:Str} {pos:Pos} {v:Value} {Q:Unit->Shared->Prop}
  (h:wpAny (model PG w) A (eval o env) (λov s₁=>wpAny (model PG w) A (setAttr ov attr v) Q E s₁) E s):wpAny (model PG w) A (assign (.Attribute o attr pos) env v) Q E s:=by
 rw [arm_assign_Attribute];refine wpAny_bind (wpAny_holding (wpAny_mono h (λov s₁ h₁=>?_) λ_ _ e=>e));refine wpAny_bind (wpAny_standAt (wpAny_bind (wpAny_holding (wpAny_mono h₁ (λ_ s₂ h₂=>?_) λ_ _ e=>e))));exact wpAny_release h₂
noncomputable def IterOk (B:Bs w) (g₀:PH) (dx f:Addr) (rls:List Addr):Prop:=
 ∀ (A':Around) (B':Bs w) (g:PH) (s:Shared),Le B B'->Chg [dx] g₀ g->Kp B' g s->Rm A' 3->A'.handled=none ->
  codeAny (model PG w) A' (.call (.ref f) ⟨[],[]⟩) (λr s'=>Ex2 λl o=>And4 (r=.ok (.ret (.ref l))) (g l=none) (OL (rls.map .ref) o) (Kp B' (put g l o) s')) s
theorem sp_gpm {f dr lam:Addr} {fd:FuncData} {odr odx:Obj} {mR:Str->Option Value} {kR:List Str} {rows:List (Addr×List Str)} (K:Kp B g s) (hr:Rm A 6) (hh:A.handled=none)
  (hx:g x=some (ins 278 dx #[])) (hdx:g dx=some odx) (oax:OA [sRoot] (up (λ_=>none) sRoot (.ref f)) odx) (hf:g f=some (fno fd (some dr) #[])) (hdr:g dr=some odr) (hdd:dr≠dx) (oar:OA kR mR odr) (hit:mR sIter=some (.ref lam)) (hlam:∀ s B' L m g',Chg [dx] g g'->St (w:=w) B' L m g' s->FnAt lam s.heap)
  (hcall:IterOk B g dx lam (rows.map (·.1))) (hrows:RowsAt g rows) (hz:rows.length≤100) (hzr:∀ p∈rows,p.2.length≤100) :
  codeAny (model PG w) A (.call (.ref 261) ⟨[.ref x],[]⟩) (λr s'=>Ex3 λd o g'=>And6 (r=.ok (.ret (.ref d))) (g d=none) (g' d=some o) (OD w (putRows [] rows) o) (Chg [dx] g g') (Kp B g' s')) s:=by
 refine call_fnA (binds:=[(Str.ofString "context",.ref x)]) K hr hh (by rfl) (by kernel_rfl) (BindsTo.of_eq rfl) (by rfl) (λA L s E hr hh S=>?_);intro _ _;refine in_envX ?_;intro _;walk_at "J";refine x_getPm S hx hdx oax (if_neg (by decide)) λs S=>?_;walk_at "J";refine o_isNone ?_;walk_at "J";refine x_iteT (by rfl) ?_;walk_at "J";refine r_dict0 ‹_› λs d o odd nd _ _ S=>?_;have xd:x≠d:=ne_none hx nd;have dxd:dx≠d:=ne_none hdx nd;refine a_attr ?_;walk_at "J";refine x_set ‹_› ((put_ne xd).trans hx) ((put_ne dxd).trans hdx) oax (by decide) (.inr rfl) λs od' oa' S=>?_;walk_at "J"
 have hx₂:put (put g d o) dx od' x=some (ins 278 dx #[]):=by
  have:x≠dx:=by rintro rfl;rw [hx] at hdx;cases hdx;obtain ⟨es,n,e,_⟩:=oax;cases e
  rw [put_ne this,put_ne xd];exact hx
 refine MethodCall_ ?_;walk_at "J";refine i_get ‹_› hx₂ (put_self ..) oa' (v:=.ref f) ((if_neg (by decide)).trans (if_pos rfl)) (by kernel_rfl) (by kernel_rfl) (attr:=none) (by kernel_rfl) (by kernel_rfl) rfl λs S=>?_;walk_at "J"
 have hf₂:put (put g d o) dx od' f=some (fno fd (some dr) #[]):=by
  rw [put_ne (ne_ty hf rfl hdx oax.cls (by decide))];exact put_of nd hf
 have hdr₂:put (put g d o) dx od' dr=some odr:=by rw [put_ne hdd];exact put_of nd hdr
 refine gm_fn ‹_› hf₂ hdr₂ oar hit fn_iter fn_ga rfl λs S=>?_
 have ch:Chg [dx] g (put (put g d o) dx od'):=λb y hb e=>by
  rw [put_ne (by simpa using hb)];exact put_of nd e
 refine r_cwFn0 (hlam _ _ _ _ _ ch S) ?_;obtain ⟨r,r1,r2,K₁,back⟩:=S.callx;refine r_defCall (codeAny_mono (hcall _ _ _ _ (λb o e=>extB_of e) ch K₁ (hr.le (by decide)) hh) λr s' hR=>?_);obtain ⟨l,ol,rfl,nl,hol,K₂⟩:=hR;have S:=back _ _ K₂;dsimp only;walk_at "J";have hd₂:put (put g d o) dx od' d=some o:=(put_ne dxd.symm).trans (put_self ..);have ld:d≠l:=ne_none hd₂ nl
 refine for_O (O_list S hh (.inl (put_self ..)) hol) (λi m' g'=>∃ o',And3 (g'=put (put (put (put g d o) dx od') l ol) d o') (OD w (putRows [] (rows.take i)) o') (m' (Str.ofString "parent_map")=some (.ref d))) (λ_ _ _=>False)
  ⟨o,(put_same (put_of nl hd₂)).symm,odd,by walk_at "J.m"⟩ ?_ ?_ ?_ (λ_ _ _ _ h=>h.elim)
 ·rintro i m' g' ⟨o',rfl,_⟩;exact m1 λy e=>(put_ne ld.symm).trans e
 ·rintro i v m' g' s₁ B' E₁ _ hi hv ⟨o',rfl,oP',h1⟩ S;refine gq λ_ z3=>?_
  obtain ⟨p,hp,e1⟩:∃ p,rows[i]?=some p∧v=.ref p.1:=by
   rw [List.map_map,List.getElem?_map] at hv;cases q:rows[i]? with
   |none=>rw [q] at hv;cases hv
   |some p=>rw [q] at hv;cases hv;exact ⟨p,rfl,rfl⟩
  subst e1;obtain ⟨orow,vrow,w1,w2,w3⟩:=hrows p (List.mem_of_getElem? hp);refine z3 ?_;have lw:=w3.len_eq;have n1:p.1≠d:=ne_none w1 nd;have n2:p.1≠dx:=ne_ty w1 w2.cls hdx oax.cls (by decide)
  have hrl:∀ y,put (put (put (put g d o) dx od') l ol) d y p.1=some orow:=λy=>by
   rw [put_ne n1];exact put_of nl ((put_ne n2).trans (put_of nd w1))
  have hlen:=len_putRows (rows.take i) [] λq hq=>hzr q (List.mem_of_mem_take hq);have hlt:(rows.take i).length≤100:=by rw [List.length_take];exact n_t (Nat.min_le_right _ _) ‹_›
  have hrow:=hzr p (List.mem_of_getElem? hp);have sz:=sizeLine_eq;walk_at "J"
  refine for_O (O_list ‹_› hh (.inl (hrl o')) w2) (λj m' g'=>∃ o',And4 (g'=put (put (put (put g d o) dx od') l ol) d o') (OD w (putRow (putRows [] (rows.take i)) p.1 (p.2.take j)) o') (m' (Str.ofString "parent_map")=some (.ref d)) (m' (Str.ofString "p")=some (.ref p.1))) (λ_ _ _=>False)
   ⟨o',rfl,oP',by walk_at "J.m",by walk_at "J.m"⟩ ?_ ?_ ?_ (λ_ _ _ _ h=>h.elim)
  ·rintro j m' g' ⟨o₂,rfl,_⟩;exact m1 λy e=>(hrl _).trans ((hrl _).symm.trans e)
  ·rintro j v m' g' s₁ B₂ E₂ _ hj hv ⟨o₂,rfl,oP₂,h1,h2⟩ S;obtain ⟨y,ty,rfl,hy⟩:=w3.item _ _ hv;have hl2:=len_putRow p.1 (p.2.take j) (putRows [] (rows.take i));have hl3:(p.2.take j).length≤100:=by rw [List.length_take];exact n_t (Nat.min_le_right _ _) ‹_›
   walk_at "J";refine o_setD ‹_› (put_self ..) oP₂ (by rw [List.length_nil] at hlen;exact om85 hlen hlt sz hl2 hl3) λs o₃ oP₃ S=>?_;rw [put_put,<-putRow_snoc] at *;walk_at "J";refine ⟨_,_,‹_›,o₃,rfl,?_,by walk_at "J.m",by walk_at "J.m"⟩;rw [List.take_add_one,hy];exact oP₃
  ·rintro m' g' s₁ E₁ ⟨o₂,rfl,oP₂,h1,h2⟩ S;rw [lw,List.take_length] at oP₂;walk_at "J";refine ⟨_,_,S,o₂,rfl,?_,h1⟩;rw [List.take_add_one,hp];show OD w (putRows [] (rows.take i ++ [p])) o₂;rw [putRows_snoc];exact oP₂
 ·rintro m' g' s₁ E₁ ⟨o',rfl,oP',h1⟩ S;rw [List.map_map,List.length_map,List.take_length] at oP';walk_at "J";refine ⟨d,o',_,rfl,nd,put_self ..,oP',λb y hb e=>?_,S.kp⟩;rw [put_ne (ne_none e nd)];exact put_of nl (ch _ _ hb e)
end
noncomputable def qRead:Str:=Str.ofString "_law_read.<locals>.<lambda>"
section
variable {w:World} {B:Bs w} {A:Around} {L:Addr} {m m':Str->Option Value} {g:PH} {s:Shared} {env:Env} {E:Value->Shared->Prop} {pl:Sem Bool}
theorem r_lamR (i:Nat) {params:Arguments} {body:Expr} {scope:Scope} {pos:Pos} {clos:List (Str×Addr)} {Q:Value->Shared->Prop} (S:St B L m g s) (hl:lamAt w 324 i=some (params,body,scope))
  (h:∀ s' f g' fd,Sub g g'->LamO w 324 i qRead clos g' f->g' f=some (fno fd none #[])->g f=none->St B L m g' s'->Q (.ref f) s')
  (hcl:closureFor scope env=pure clos:=by rfl) (hcode:env.code=.ref 323:=by rfl) (hg0:env.globals=mainGlobals:=by rfl) (hdef:defaultsOf params env=([],[]):=by rfl)
  (hq:env.qual ++ "<lambda>"=qRead:=by rfl):wpAny (model PG w) A (eval (.Lambda params body scope pos) env) Q E s:=by
 refine r_lam_read S (λs' f cdv ct pm g' sub lc nf nf' S'=>?_) hcl hcode hg0 hdef hq;rw [hq] at lc S';exact h _ _ _ _ (sub.trans (Sub.put nf')) ⟨params,body,scope,pm,cdv,ct,hl,put_self ..,lc.sub (Sub.put nf')⟩ (put_self ..) nf S'
end
theorem valueAt_stored (kvs:List (Str×Value)) (k y:Str) (v:Value):valueAt (stored kvs k v) y=if y=k then some v else valueAt kvs y:=by
 unfold stored valueAt
 by_cases h:(kvs.any λkv=>decide (kv.1=k))=true
 ·rw [if_pos h]
  induction kvs with
  |nil=>simp at h
  |cons p r ih=>
   rw [List.map_cons,List.find?_cons,List.find?_cons]
   by_cases hp:p.1=k
   ·subst hp;simp only [if_true]
    by_cases hy:y=p.1
    ·subst hy;simp
    ·have h2:decide (p.1=y)=false:=by simpa using Ne.symm hy
     simp only [h2,if_neg hy]
     by_cases hr:(r.any λkv=>decide (kv.1=p.1))=true
     ·rw [ih hr,if_neg hy]
     ·have:r.map (λkv=>if kv.1=p.1 then (kv.1,v) else kv)=r:=by
       refine (List.map_congr_left λq hq=>?_).trans (List.map_id _);have:¬ q.1=p.1:=λe=>hr (List.any_eq_true.mpr ⟨q,hq,by simpa using e⟩);rw [if_neg this];rfl
      rw [this]
   ·have hr:(r.any λkv=>decide (kv.1=k))=true:=by
     rw [List.any_cons] at h
     simpa [hp] using h
    simp only [if_neg hp]
    by_cases hy:p.1=y
    ·have:¬ y=k:=λe=>hp (hy.trans e);simp [hy,this]
    ·have h2:decide (p.1=y)=false:=by simpa using hy
     simp only [h2];exact ih hr
 ·rw [if_neg h,List.find?_append]
  by_cases hy:y=k
  ·subst hy
   have:kvs.find? (λkv=>decide (kv.1=y))=none:=by
    rw [List.find?_eq_none];intro q hq e;exact h (List.any_eq_true.mpr ⟨q,hq,e⟩)
   rw [this];simp
  ·have h2:decide (k=y)=false:=by simpa using Ne.symm hy
   simp [List.find?_cons,h2,hy]
theorem valueAt_putRow (rl:Addr) (y:Str):∀ (row:List Str) (kvs:List (Str×Value)),valueAt (putRow kvs rl row) y=if y∈row then some (.ref rl) else valueAt kvs y
 |[],kvs=>by simp [putRow]
 |n :: r,kvs=>by
  have h3:putRow kvs rl (n :: r)=putRow (stored kvs n (.ref rl)) rl r:=rfl;rw [h3,valueAt_putRow rl y r,valueAt_stored]
  by_cases h1:y∈r
  ·rw [if_pos h1,if_pos (.tail _ h1)]
  ·rw [if_neg h1]
   by_cases h2:y=n
   ·rw [if_pos h2,if_pos (by rw [h2];exact .head _)]
   ·rw [if_neg h2,if_neg (by rw [List.mem_cons];exact λh=>h.elim h2 h1)]
theorem valueAt_ent {es:List Ent} (nd:(es.map (·.n)).Nodup) {e:Ent} (h:e∈es):valueAt (entKvs es) e.n=some (.ref e.f):=by
 induction es with
 |nil=>cases h
 |cons a r ih=>
  rw [List.map_cons,List.nodup_cons] at nd;show Option.map _ (List.find? _ ((a.n,Value.ref a.f) :: entKvs r))=_;rw [List.find?_cons];rcases List.mem_cons.mp h with rfl|h
  ·simp
  ·have:decide (a.n=e.n)=false:=by
    simp only [decide_eq_false_iff_not];intro q;exact nd.1 (q▸List.mem_map.mpr ⟨e,h,rfl⟩)
   simp only [this];exact ih nd.2 h
section
variable {w:World} {B:Bs w} {A:Around} {L e:Addr} {m m':Str->Option Value} {F₀ g g':PH} {s:Shared} {env:Env} {E:Value->Shared->Prop} {pl:Sem Bool} {x dx d:Addr}
theorem call_cellsA {k:Nat} {R:Result->Shared->Prop} {name qual:Str} {params:Arguments} {body:List Stmt} {scope:Scope} {dV kV doc pm cdv ct oc:Value} {an od:Option Addr} {osl:Array (Option Value)} {f:Addr} {vals:List Value} {binds:List (Str×Value)}
  (K:Kp B g s) (hr:Rm A (k + 1)) (hh:A.handled=none) (ho:(HF w).lookup f=some ⟨oc,od,.func (fnX name qual params body scope [] dV kV doc pm an cdv ct),osl⟩) (hcd:codeIn (HF w) cdv qual=true)
  (hbind:bindArgs (fnX name qual params body scope [] dV kV doc pm an cdv ct) ⟨vals,[]⟩=pure binds)
  (hkind:∀ x∈binds,scope.names.lookup x.1=some .local∨(scope.names.lookup x.1=some .cell∧((cellsFrom (s.heap.objs.size + 1) scope.names []).lookup x.1).isSome=true))
  (h:∀ A' L s' E',Rm A' k->A'.handled=none->St B L (bindL (λx=>scope.names.lookup x) binds λ_=>none) g s' ->
   (∀ n c v,bindC (λx=>scope.names.lookup x) binds (λ_=>none) n=v->(cellsFrom (L + 1) scope.names []).lookup n=some c->(∃ o,s'.heap.get? c=some o∧o.data=.cell v)∧g c=none∧B.base c=none∧c≠L∧c≠321∧c≠293) ->
   ∀ R':Flow->Shared->Prop,(∀ fl s',R (.ok (.ret (match fl with|.ret v=>v|_=>.none))) s'->R' fl s')->wpAny (model PG w) A' (execs body (envX qual scope L f cdv (cellsFrom (L + 1) scope.names []))) R' E' s')
  (hco:scope.isCoroutine=false:=by rfl) (hgen:scope.isGenerator=false:=by rfl) (hk:scope.kind=.function:=by rfl):codeAny (model PG w) A (.call (.ref f) ⟨vals,[]⟩) R s:=
 call_cells K hr ho hcd hbind hkind (λL s' E' S c=>h _ L s' E' hr.deeper hh S (λn c' v hv hc=>by subst hv;exact c n c' hc) _ λ_ _ h=>h) hco hgen hk
theorem iter_read {g₁ g₀:PH} {dx lam c d:Addr} {oc:Obj} {es:List Ent} (hl:LamO w 324 1 qRead [(Str.ofString "things",c)] g₁ lam) (hc:g₁ c=some oc) (hcd:oc.data=.cell (some (.ref d)))
  (T:Things w g₁ d (entKvs es) es) (nd:(es.map (·.n)).Nodup) (hn:es.length≤900) (n:g₁ dx=none) (sub:Sub g₁ g₀):IterOk B g₀ dx lam (es.map (·.rl)):=by
 intro A' B' g s hB ch K hr hh;have sub₁:Sub g₁ g:=λb o e=>ch b o (by simpa using ne_none e n) (sub _ _ e);have T:=T.chg sub₁;have hc:=sub₁ _ _ hc;refine (hl.sub sub₁).call K hr (by rfl) (binds:=[]) (λ_ _ _=>by rfl) (by rfl) λL s' E' cdv S=>?_;have C:CellAt B' g c (.ref d):=⟨_,.inl hc,hcd⟩;obtain ⟨od,hd,od_⟩:=T.od;refine r_listComp ?_;walk_at "J";have lk:(entKvs es).length=es.length:=List.length_map ..;refine core_L S ((O_dict (A:=A'.deeper _) S hh (sysNe S hd) (.inl hd) od_).toG) (by exact n_t (n_e ‹_›) (n_t ‹_› (by decide))) (λi g' acc=>g=g'∧acc=(es.take i).map λe=>Value.ref e.rl) ⟨rfl,rfl⟩ ?_ ?_ ?_ ?_
 ·rintro i g' acc ⟨_,rfl⟩;rw [List.length_map,List.length_take];exact Nat.min_le_left _ _
 ·rintro i g' acc ⟨rfl,_⟩ b hb o e;exact e
 ·rintro i v g' s B'' C' mC acc E' _ hi ⟨y,xv,ty,hy,rfl⟩ ⟨rfl,hacc⟩ S
  obtain ⟨e,he,rfl,rfl⟩:∃ e,And3 (es[i]?=some e) (y=e.n) (xv=.ref e.f):=by
   unfold entKvs at hy;rw [List.getElem?_map] at hy;cases q:es[i]? with
   |none=>rw [q] at hy;cases hy
   |some e=>rw [q] at hy;cases hy;exact ⟨e,rfl,rfl,rfl⟩
  have hv:valueAt (entKvs es) e.n=some (.ref e.f):=valueAt_ent nd (List.mem_of_getElem? he);obtain ⟨fd,od,orow,oc1,oc2,vs,mA,f1,f2,c1,c2,t,t',X⟩:=T.th e (List.mem_of_getElem? he);have C:CellAt B'' g c (.ref d):=⟨_,.inl hc,hcd⟩;walk_at "J";refine ifs0 ?_;rw [if_pos rfl];walk_at "J";refine t_dict ‹_› (od_.dictOf (St.sub ‹_› hd)) hv λs S=>?_;walk_at "J";refine fa_get ‹_› X.f_ X.d_ X.oa_ X.row_ fn_row rfl λs S=>?_;walk_at "J";refine ⟨_,_,S,rfl,?_⟩;rw [hacc,List.take_add_one,he];simp
 ·rintro s' D C mC g' acc ⟨rfl,hacc⟩ hD aD aC hDC nC S';refine fin_valL S' hD aD aC nC hDC λs o ol nD S=>?_;rw [lk,List.take_length] at hacc;subst hacc;exact ⟨D,o,rfl,nD,by rw [List.map_map];exact ol,S.kp⟩
end
noncomputable def upP (ths:List Th) (x:Str):Option Str:=ths.foldl (λa th=>if x∈th.2.2 then some th.2.1 else a) none
noncomputable def upN (ths:List Th) (x:Str):Option Str:=(upP ths x).map bnF
noncomputable def readB (ths all:List Th):List (Str×Str):=ths.filterMap λth=>(upN all th.1).map λy=>(th.1,y)
noncomputable def wayStep (ths:List Th) (w:List Str):List Str:=if (upN ths (w.headD (Str.ofString ""))).getD (bnF (Str.ofString "?"))≠Str.ofString "" then (upN ths (w.headD (Str.ofString ""))).getD (bnF (Str.ofString "?")) :: w else w
noncomputable def wayP (ths:List Th) (en:Str):Nat->List Str
 |0=>[en]
 |n + 1=>wayStep ths (wayP ths en n)
noncomputable def tput (tbl:List (Str×Str)) (k v:Str):List (Str×Str):=if tbl.any (λkv=>decide (kv.1=k)) then tbl.map λkv=>if kv.1=k then (kv.1,v) else kv else tbl ++ [(k,v)]
noncomputable def tputs (tbl:List (Str×Str)) (l:List (Str×Str)):List (Str×Str):=l.foldl (λt p=>tput t p.1 p.2) tbl
theorem skvs_map {kvs:List (Str×Value)} {tbl:List (Str×Str)} (h:SKvs kvs tbl) (k v:Str) (t:Tok):SKvs (kvs.map λkv=>if kv.1=k then (kv.1,.str v t) else kv) (tbl.map λkv=>if kv.1=k then (kv.1,v) else kv):=by
 induction h with
 |nil=>exact .nil
 |cons q ih=>
  rw [List.map_cons,List.map_cons];dsimp only
  split
  ·exact .cons ih
  ·exact .cons ih
theorem skvs_snoc {kvs:List (Str×Value)} {tbl:List (Str×Str)} (h:SKvs kvs tbl) (k v:Str) (t:Tok):SKvs (kvs ++ [(k,.str v t)]) (tbl ++ [(k,v)]):=by
 induction h with
 |nil=>exact .cons .nil
 |cons q ih=>exact .cons ih
theorem skvs_stored {kvs:List (Str×Value)} {tbl:List (Str×Str)} (h:SKvs kvs tbl) (k v:Str) (t:Tok):SKvs (stored kvs k (.str v t)) (tput tbl k v):=by
 have h1:(kvs.any λkv=>decide (kv.1=k))=tbl.any λkv=>decide (kv.1=k):=by
  have:=congrArg (·.any λy=>decide (y=k)) h.keys
  simpa [List.any_map,Function.comp_def] using this
 unfold stored tput;rw [h1]
 split
 ·exact skvs_map h k v t
 ·exact skvs_snoc h k v t
theorem tput_len (tbl:List (Str×Str)) (k v:Str):(tput tbl k v).length≤tbl.length + 1:=by unfold tput;split <;> simp
theorem tputs_len:∀ (l tbl:List (Str×Str)),(tputs tbl l).length≤tbl.length + l.length
 |[],tbl=>Nat.le_refl _
 |p :: r,tbl=>by
  have h1:=tputs_len r (tput tbl p.1 p.2);have h2:=tput_len tbl p.1 p.2;show (tputs (tput tbl p.1 p.2) r).length≤_;rw [List.length_cons];exact om83 h1 h2
theorem tputs_snoc (tbl l:List (Str×Str)) (p:Str×Str):tputs tbl (l ++ [p])=tput (tputs tbl l) p.1 p.2:=by unfold tputs;rw [List.foldl_append];rfl
theorem wayP_ne (ths:List Th) (en:Str):∀ n,∃ a r,wayP ths en n=a :: r
 |0=>⟨_,_,rfl⟩
 |n + 1=>by
  obtain ⟨a,r,h⟩:=wayP_ne ths en n;show ∃ a r,wayStep ths (wayP ths en n)=_;unfold wayStep
  split
  ·exact ⟨_,_,rfl⟩
  ·exact ⟨a,r,h⟩
theorem wayP_len (ths:List Th) (en:Str):∀ n,(wayP ths en n).length≤n + 1
 |0=>Nat.le_refl _
 |n + 1=>by
  have h:=wayP_len ths en n;show (wayStep ths (wayP ths en n)).length≤_;unfold wayStep
  split
  ·rw [List.length_cons];exact Nat.succ_le_succ ‹_›
  ·exact Nat.le_succ_of_le ‹_›
theorem tab_at {ES:List Ent} {x:Str}:∀ (es:List Ent) (kvs:List (Str×Value)) (a:Option Str),(∀ e∈es,e∈ES)->((valueAt kvs x=none∧a=none)∨∃ e∈ES,valueAt kvs x=some (.ref e.rl)∧a=some e.p) ->
  (valueAt (putRows kvs (es.map λe=>(e.rl,e.row))) x=none∧(es.map Ent.th).foldl (λa th=>if x∈th.2.2 then some th.2.1 else a) a=none) ∨
   ∃ e∈ES,valueAt (putRows kvs (es.map λe=>(e.rl,e.row))) x=some (.ref e.rl)∧(es.map Ent.th).foldl (λa th=>if x∈th.2.2 then some th.2.1 else a) a=some e.p
 |[],kvs,a,_,h=>h
 |e :: r,kvs,a,hm,h=>by
  show (valueAt (putRows (putRow kvs e.rl e.row) (r.map λe=>(e.rl,e.row))) x=none∧(r.map Ent.th).foldl _ (if x∈e.row then some e.p else a)=none)∨_;refine tab_at r (putRow kvs e.rl e.row) (if x∈e.row then some e.p else a) (λe he=>hm e (.tail _ he)) ?_;rw [valueAt_putRow]
  by_cases q:x∈e.row
  ·rw [if_pos q,if_pos q];exact .inr ⟨e,hm e (.head _),rfl,rfl⟩
  ·rw [if_neg q,if_neg q];exact h
theorem tab_look (es:List Ent) (x:Str):(valueAt (putRows [] (es.map λe=>(e.rl,e.row))) x=none∧upP (es.map Ent.th) x=none) ∨
  ∃ e∈es,valueAt (putRows [] (es.map λe=>(e.rl,e.row))) x=some (.ref e.rl)∧upP (es.map Ent.th) x=some e.p:=
 tab_at es [] none (λe h=>h) (.inl ⟨rfl,rfl⟩)
section
variable {w:World} {B:Bs w} {A:Around} {L e:Addr} {m m':Str->Option Value} {F₀ g g':PH} {s:Shared} {env:Env} {E:Value->Shared->Prop} {pl:Sem Bool} {x dx d:Addr}
theorem fin_nameD {D C:Addr} {mC:Str->Option Value} {y:Str} {py:Pos} {kvs:List (Str×Value)} {Q:Shared->Prop} (S:St B env.locals m g s) (hD:s.heap.DictOf (strKind PG w) D kvs) (aD:Away B env.locals g [D] s.heap) (aC:Away B env.locals g [C] s.heap) (nC:s.heap.Ns C mC) (hDC:D≠C) (hk:env.scope.kind=.function) (hl:env.kindOf y=some .local)
  (h:∀ s' o,OD w kvs o->g D=none->St B env.locals (up m y (.ref D)) (put g D o) s'->Q s'):compPost (model PG w) A E (some (assign (.Name y py) env)) (λ_ s'=>Q s') (.ref D) C (.ok .next) s:=by
 obtain ⟨o,od,S2,nD⟩:=takeD S hD aD;refine post_name (Q:=λ_ s'=>Q s') S2 (aC.put1 hDC) nC hDC hk hl λs' S' _=>h _ _ od nD S'
theorem fin_nameL {D C:Addr} {mC:Str->Option Value} {y:Str} {py:Pos} {acc:List Value} {Q:Shared->Prop} (S:St B env.locals m g s) (hD:∃ k,s.heap.get? D=some (listOf acc.toArray k)) (aD:Away B env.locals g [D] s.heap) (aC:Away B env.locals g [C] s.heap) (nC:s.heap.Ns C mC) (hDC:D≠C) (hk:env.scope.kind=.function) (hl:env.kindOf y=some .local)
  (h:∀ s' o,OL acc o->g D=none->St B env.locals (up m y (.ref D)) (put g D o) s'->Q s'):compPost (model PG w) A E (some (assign (.Name y py) env)) (λ_ s'=>Q s') (.ref D) C (.ok .next) s:=by
 obtain ⟨k,hD⟩:=hD;obtain ⟨o,ol,S2,nD⟩:=takeL S hD aD;refine post_name (Q:=λ_ s'=>Q s') S2 (aC.put1 hDC) nC hDC hk hl λs' S' _=>h _ _ ol nD S'
theorem readB_snoc (l:List Th) (th:Th) (all:List Th):readB (l ++ [th]) all=readB l all ++ (match upN all th.1 with|none=>[]|some y=>[(th.1,y)]):=by
 unfold readB;rw [List.filterMap_append]
 congr 1
 rw [List.filterMap_cons];cases upN all th.1 <;> rfl
theorem readB_keys (l all:List Th):∀ x∈(readB l all).map (·.1),x∈l.map (·.1):=by
 intro x hx;obtain ⟨p,hp,rfl⟩:=List.mem_map.mp hx;obtain ⟨th,hth,e⟩:=List.mem_filterMap.mp hp;cases q:upN all th.1 with
 |none=>rw [q] at e;cases e
 |some y=>rw [q] at e;cases e;exact List.mem_map.mpr ⟨th,hth,rfl⟩
theorem readB_len (l all:List Th):(readB l all).length≤l.length:=List.length_filterMap_le ..
theorem LamO.chgF {fdef:Addr} {i:Nat} {q:Str} {cl:List (Str×Addr)} {g g':PH} {f f₀:Addr} {fd:FuncData} {d₀:Option Addr} {sl:Array (Option Value)} (h:LamO w fdef i q cl g f) (k:Chg [f₀] g g') (hf:g f₀=some (fno fd d₀ sl)) (hn:f≠f₀):LamO w fdef i q cl g' f:=by
 obtain ⟨p,e,sc,pm,cdv,ct,h1,h2,h3⟩:=h;exact ⟨p,e,sc,pm,cdv,ct,h1,k _ _ (by simpa using hn) h2,h3.chg k λx hx=>⟨_,by cases List.mem_singleton.mp hx;exact hf,by rintro ⟨vs,e⟩;cases e⟩⟩
theorem sp_read {es:List Ent} {ths:List Th} {en:Str} {te:Tok} {ks:List Str} (K:Kp B g s) (hr:Rm A 9) (hh:A.handled=none) (T:Things w g d (entKvs es) es) (nd:(es.map (·.n)).Nodup) (he:es.map Ent.th=ths)
  (hrow:∀ e∈es,∃ r,e.row=e.p :: r) (hz:es.length≤50) (hzr:∀ e∈es,e.row.length≤100) (hzp:∀ e∈es,e.p.length≤1000)
  (hks:∀ ss:List Str,ss.Perm (wayP ths en ths.length)->sortedS ss=true->ss=ks) :
  codeAny (model PG w) A (.call (.ref 324) ⟨[.ref d,.str en te],[]⟩) (λr s'=>Ex2 λdS g'=>And5 (r=.ok (.ret (.ref dS))) (Kp B g' s') (Sub g g') (g dS=none) (SD w g' dS (tputs (readB ths ths) (ks.zip (wayP ths en ths.length))))) s:=by
 refine call_cellsA (binds:=[(Str.ofString "things",.ref d),(Str.ofString "end",.str en te)]) K hr hh (by rfl) (by kernel_rfl) (by rfl) (mc (.inr ⟨by rfl,by rfl⟩) (m1 (.inl (by rfl)))) λA L s₁ E hr hh S c=>?_;intro _ _;refine in_envX ?_;intro _;refine gq λ_ z1=>?_;obtain ⟨⟨o1,e1,d1⟩,n1,b1,l1,u1,v1⟩:=c (Str.ofString "things") (L + 1) (some (.ref d)) (by rfl) (by rfl);obtain ⟨⟨o2,e2,d2⟩,n2,b2,l2,u2,v2⟩:=c (Str.ofString "table") (L + 2) none (by rfl) (by rfl);obtain ⟨m₀,hm₀,S⟩:∃ m₀:Str->Option Value,m₀ (Str.ofString "end")=some (.str en te)∧St B L m₀ g s₁:=⟨_,by rfl,S⟩;refine z1 ?_;have S₁:=S.take e1 b1 l1 u1 v1;have S₂:=S₁.take e2 b2 l2 u2 v2;clear S S₁ c;have n2':put g (L + 1) o1 (L + 2)=none:=(put_ne (by simp)).trans n2;have sub0:Sub g (put (put g (L + 1) o1) (L + 2) o2):=(Sub.put n1).trans (Sub.put n2');have c1:put (put g (L + 1) o1) (L + 2) o2 (L + 1)=some o1:=(put_ne (by simp)).trans (put_self ..);have c2:put (put g (L + 1) o1) (L + 2) o2 (L + 2)=some o2:=put_self ..;walk_at "J";refine r_lamR 0 S₂ (by rfl) λs f g₁ fd sub₁ _ gf nf S=>?_;walk_at "J";have c1:=sub₁ _ _ c1;have c2:=sub₁ _ _ c2;have nf0:g f=none:=none_sub nf sub0;have sub₁:=sub0.trans sub₁;refine r_lamR 1 ‹_› (by rfl) λs lam g₂ fd₂ sub₂ lo _ nlam S=>?_;walk_at "J";refine fa_new ‹_› (sub₂ _ _ gf) fn_iter λs dr odr oar ndr nfdr S=>?_;obtain ⟨G,hG⟩:∃ G,G=put (put g₂ dr odr) f (fno fd (some dr) #[]):=⟨_,rfl⟩;rw [<-hG] at S;have c1':=sub₂ _ _ c1;have c2':=sub₂ _ _ c2;have gf₂:=sub₂ _ _ gf;have Nf1:(L + 1)≠f:=by rintro e;rw [e,gf] at c1;cases c1;cases d1
 have Nf2:(L + 2)≠f:=by rintro e;rw [e,gf] at c2;cases c2;cases d2
 have ndr0:g dr=none:=none_sub ndr (sub₁.trans sub₂);have gG:∀ {b o},g₂ b=some o->b≠f->G b=some o:=λe h=>by rw [hG,put_ne h];exact put_of ndr e
 have c1:=gG c1' Nf1;have c2:=gG c2' Nf2;have sub:Sub g G:=λb o e=>gG (sub₂ _ _ (sub₁ _ _ e)) (ne_none e nf0);have hfG:G f=some (fno fd (some dr) #[]):=by rw [hG];exact put_self ..
 have hdG:G dr=some odr:=by rw [hG,put_ne nfdr.symm];exact put_self ..
 have lmf:lam≠f:=(ne_none gf nlam).symm
 have lo:LamO w 324 1 qRead [(Str.ofString "things",L + 1)] G lam:=by
  have l1:=lo.sub (Sub.put (o:=odr) ndr);refine l1.chgF (f₀:=f) ?_ ((put_ne nfdr).trans gf₂) lmf;rw [hG];exact Chg.put (by simp)
 clear hG gG c1' c2' gf gf₂ ndr;walk_at "J";refine c_make (C:=278) ‹_› (by kernel_rfl) (by rfl) (by kernel_rfl) λx dx s S n1' n2' n3'=>?_;refine S.call λr K₁ back=>?_;have hx':=put_self (g:=put G dx emptyDict) (a:=x) (o:=ins 278 dx #[]);have hd':put (put G dx emptyDict) x (ins 278 dx #[]) dx=some emptyDict:=(put_ne n3').trans (put_self ..);have subx:Sub G (put (put G dx emptyDict) x (ins 278 dx #[])):=(Sub.put n1').trans (Sub.put ((put_ne n3'.symm).trans n2'));refine codeAny_mono (sp_xinit (v:=.ref f) K₁ (Rm.make hr |>.le (by decide)) hh hx' hd') λr s' hR=>?_
 obtain ⟨odx,rfl,oax,K₂⟩:=hR;have S:=back _ _ K₂;refine ⟨rfl,?_⟩;obtain ⟨G₁,hG₁⟩:∃ G₁,G₁=put (put (put G dx emptyDict) x (ins 278 dx #[])) dx odx:=⟨_,rfl⟩;rw [<-hG₁] at S;have subG₁:Sub G G₁:=λb o e=>by rw [hG₁,put_ne (ne_none e n1')];exact subx _ _ e
 have hxG:G₁ x=some (ins 278 dx #[]):=by rw [hG₁,put_ne n3'.symm];exact put_self ..
 have hdxG:G₁ dx=some odx:=by rw [hG₁];exact put_self ..
 clear hG₁ K₂ K₁ back hx' hd' subx;walk_at "J";have subA:=sub.trans subG₁;refine St.call ‹_› λr K₁ back=>?_;have T₁:=T.chg subA;refine r_defCall (codeAny_mono (sp_gpm (rows:=es.map λe=>(e.rl,e.row)) (lam:=lam) K₁ (hr.le (by decide)) hh hxG hdxG oax (subG₁ _ _ hfG) (subG₁ _ _ hdG) (ne_none hdG n1') oar up_hit ?_ ?_ ?_ (by rw [List.length_map];exact n_t ‹_› (by decide)) ?_) λr s' hR=>?_)
 ·intro s B' L m g' ch S;exact (lo.sub λb o e=>ch _ _ (by simpa using ne_none e n1') (subG₁ _ _ e)).fn S
 ·have:=iter_read (B:=r) lo c1 d1 (T.chg sub) nd (by exact n_t ‹_› (by decide)) n1' subG₁;rw [List.map_map];exact this
 ·intro p hp;refine gq λ_ z5=>?_;obtain ⟨e,he',rfl⟩:=List.mem_map.mp hp;obtain ⟨fd,od,orow,oc1,oc2,vs,mA,f1,f2,c1,c2,t,t',X⟩:=T₁.th e he';refine z5 ?_;exact ⟨orow,vs,X.rl_,X.ol_,X.vs_⟩
 ·intro p hp;obtain ⟨e,he',rfl⟩:=List.mem_map.mp hp;exact hzr e he'
 obtain ⟨dt,ot,G₂,rfl,ndt,hdt,odt,ch,K₂⟩:=hR;have S:=back _ _ K₂;dsimp only;have c2₀:=c2;have c2:=ch _ _ (by simpa using ne_none c2 n1') (subG₁ _ _ c2);have c1:=ch _ _ (by simpa using ne_none c1 n1') (subG₁ _ _ c1);have sub':Sub g G₂:=λb o e=>ch _ _ (by simpa using ne_none (sub _ _ e) n1') (subG₁ _ _ (sub _ _ e));walk_at "J";have ne2t:L + 2≠dt:=ne_none (subG₁ _ _ c2₀) ndt;refine r_storeCell ‹_› c2 d2 λs o2' d2' S=>?_;refine gq λ_ z7=>?_;obtain ⟨G₃,hG₃⟩:∃ G₃,G₃=put G₂ (L + 2) o2':=⟨_,rfl⟩;rw [<-hG₃] at S;have c1:G₃ (L + 1)=some o1:=by rw [hG₃,put_ne (by simp)];exact c1
 have c2:G₃ (L + 2)=some o2':=by rw [hG₃];exact put_self ..
 have hdt:G₃ dt=some ot:=by rw [hG₃,put_ne ne2t.symm];exact hdt
 have sub:Sub g G₃:=λb o e=>by rw [hG₃,put_ne (ne_none e n2)];exact sub' _ _ e
 clear hG₃ K₂ K₁ back ch sub' subG₁ subA lo T₁ oar oax hfG hdG hxG hdxG;have T₃:=T.chg sub;have C1:CellAt B G₃ (L + 1) (.ref d):=⟨_,.inl c1,d1⟩;have C2:CellAt B G₃ (L + 2) (.ref dt):=⟨_,.inl c2,d2'⟩;obtain ⟨od,hd,od_⟩:=T₃.od;refine z7 ?_;have lk:(entKvs es).length=es.length:=List.length_map ..;have lth:ths.length=es.length:=by rw [<-he,List.length_map]
 have sz:=sizeLine_eq
 have hent:∀ {i:Nat} {y:Str} {xv:Value},(entKvs es)[i]?=some (y,xv)->∃ e,And3 (es[i]?=some e) (y=e.n) (xv=.ref e.f):=λ{i y xv} hy=>by
  unfold entKvs at hy;rw [List.getElem?_map] at hy;cases q:es[i]? with
  |none=>rw [q] at hy;cases hy
  |some e=>rw [q] at hy;cases hy;exact ⟨e,rfl,rfl,rfl⟩
 have hSL:∀ e∈es,SL G₃ e.rl e.row:=λe he'=>by
  obtain ⟨fd,od,orow,oc1,oc2,vs,mA,f1,f2,c1,c2,t,t',X⟩:=T₃.th e he';exact ⟨orow,vs,X.rl_,X.ol_,X.vs_⟩
 have hupN:∀ x,(valueAt (putRows [] (es.map λe=>(e.rl,e.row))) x=none∧upN ths x=none)∨∃ e∈es,valueAt (putRows [] (es.map λe=>(e.rl,e.row))) x=some (.ref e.rl)∧upN ths x=some (bnF e.p):=λx=>by
  rcases tab_look es x with ⟨h1,h2⟩|⟨e,he',h1,h2⟩
  ·exact .inl ⟨h1,by unfold upN;rw [<-he,h2];rfl⟩
  ·exact .inr ⟨e,he',h1,by unfold upN;rw [<-he,h2];rfl⟩
 walk_at "J";refine x_dictComp ?_;walk_at "J";refine core_D ‹_› ((O_dict ‹_› hh (sysNe ‹_› hd) (.inl hd) od_).toG) (by exact n_t (n_e ‹_›) (n_t ‹_› (by decide))) (λi g' acc=>G₃=g'∧SKvs acc (readB (ths.take i) ths)) ⟨rfl,.nil⟩ ?_ ?_ ?_ ?_
 ·rintro i g' acc ⟨_,h⟩;have h1:=h.len;have h2:=readB_len (ths.take i) ths;rw [List.length_take] at h2;exact om87 h1 h2
 ·rintro i g' acc ⟨rfl,_⟩ b hb o e;exact e
 ·rintro i v g' s B' C mC acc E' _ hi ⟨y,xv,ty,hy,rfl⟩ ⟨rfl,hacc⟩ S;obtain ⟨e,hee,rfl,rfl⟩:=hent hy;have C2:CellAt B' G₃ (L + 2) (.ref dt):=⟨_,.inl c2,d2'⟩;have htk:ths.take (i + 1)=ths.take i ++ [e.th]:=by rw [List.take_add_one,<-he,List.getElem?_map,hee];rfl
  have hsn:=readB_snoc (ths.take i) e.th ths;rw [<-htk] at hsn;walk_at "J";refine ifs1 ?_;walk_at "J";refine o_inD ‹_› (sysNe ‹_› hdt) (odt.dictOf (St.sub ‹_› hdt)) λs S=>?_;walk_at "J";rcases hupN e.n with ⟨h1,h2⟩|⟨e',he',h1,h2⟩
  ·rw [h1,if_neg (by decide)];walk_at "J";refine ⟨_,_,S,rfl,?_⟩;have h2':upN ths e.th.1=none:=h2;rw [hsn,h2',List.append_nil];exact hacc
  ·rw [h1,if_pos (by rfl)];walk_at "J";refine t_dict ‹_› (odt.dictOf (St.sub ‹_› hdt)) h1 λs S=>?_;walk_at "J";obtain ⟨r,hr'⟩:=hrow e' he';refine t_sl (x:=e'.p) ‹_› (hSL e' he') (by decide) (by decide) (by rw [hr'];rfl) λu=>?_;walk_at "J";refine c_basename (k:=5) ‹_› (hr.le (by decide)) (by have:=hzp e' he';exact n_t ‹_› (by decide)) λs tk S=>?_;walk_at "J";refine ⟨_,_,e.n,_,rfl,S,rfl,?_⟩;have h2':upN ths e.th.1=some (bnF e'.p):=h2;rw [stored_new,hsn,h2']
   ·exact skvs_snoc hacc _ _ _
   ·rw [hacc.keys];intro hm;have hm:=readB_keys _ _ _ hm;have hnn:(es.map (·.n))[i]?=some e.n:=by rw [List.getElem?_map,hee];rfl
    have h9:(ths.take i).map (·.1)=(es.map (·.n)).take i:=by rw [<-he,<-List.map_take,<-List.map_take,List.map_map];rfl
    rw [h9] at hm;obtain ⟨j,hj⟩:=List.mem_iff_getElem?.mp hm;rw [List.getElem?_take] at hj
    split at hj
    ·rename_i hlt
     have hj1:=List.getElem?_eq_some_iff.mp hj;have hi1:=List.getElem?_eq_some_iff.mp hnn;refine gq λ_ z10=>?_;obtain ⟨q1,q2⟩:=hj1;obtain ⟨q3,q4⟩:=hi1;refine z10 ?_;have:=(List.nodup_iff_pairwise_ne.mp nd);exact absurd (q2.trans q4.symm) (List.pairwise_iff_getElem.mp this j i q1 q3 hlt)
    ·cases hj
 ·rintro s' D C mC g' acc ⟨rfl,hacc⟩ hD aD aC hDC nC S';rw [lk,<-lth,List.take_length] at hacc;refine fin_nameD S' hD aD aC nC hDC ?hk ?hl λs oS odS nD S=>?_
  case hk=>rfl
  case hl=>rfl
  walk_at "J";have ndD:g D=none:=none_sub nD sub;refine n_list ‹_› λs lw ow olw nw _ _ S=>?_;have subD:Sub G₃ (put G₃ D oS):=Sub.put nD;have sub5:Sub G₃ (put (put G₃ D oS) lw ow):=subD.trans (Sub.put nw);have C1':CellAt B (put (put G₃ D oS) lw ow) (L + 1) (.ref d):=⟨_,.inl (sub5 _ _ c1),d1⟩;walk_at "J"
  refine for_O (O_dict ‹_› hh (sysNe ‹_› (sub5 _ _ hd)) (.inl (sub5 _ _ hd)) od_) (λi m' h'=>Ex3 λlw ow vw=>And7 (Sub (put G₃ D oS) h') (put G₃ D oS lw=none) (h' lw=some ow) (OL vw ow) (StrsAre vw (wayP ths en i)) (m' (Str.ofString "way")=some (.ref lw)) (m' (Str.ofString "sent")=some (.ref D))) (λ_ _ _=>False)
   ⟨lw,ow,[.str en te],Sub.put nw,nw,put_self ..,olw,.cons _ _ .nil,by walk_at "J.m",by walk_at "J.m"⟩ ?_ ?_ ?_ (λ_ _ _ _ h=>h.elim)
  ·rintro i m' h' ⟨lw,ow,vw,subw,_⟩;exact keep1 (sub5 _ _ hd) (subw _ _ (subD _ _ hd))
  ·rintro i v m' h' s₁ B' E₁ _ hi - ⟨lw,ow,vw,subw,nlw,hlw,olw,hvw,h1,h2⟩ S;have sub6:=subD.trans subw;have C1:CellAt B' h' (L + 1) (.ref d):=⟨_,.inl (sub6 _ _ c1),d1⟩;have C2:CellAt B' h' (L + 2) (.ref dt):=⟨_,.inl (sub6 _ _ c2),d2'⟩;have hdt6:=sub6 _ _ hdt;have lvw:=hvw.len_eq;have lw6:=wayP_len ths en i;walk_at "J";refine r_meth F.plainAttrs_dict F.slot_dict_get F.type_dict_get ?_;walk_at "J";refine ⟨(odt.dictOf (St.sub ‹_› hdt6)).mapOf.typeIs,λa e=>by cases e;exact ⟨_,St.sub ‹_› hdt6,odt.1.2.1⟩,?_⟩;walk_at "J";obtain ⟨a,r,hw⟩:=wayP_ne ths en i;refine t_sl (x:=a) ‹_› ⟨ow,vw,hlw,olw,hvw⟩ (by decide) (by decide) (by rw [hw];rfl) λu=>?_;walk_at "J";refine n_list ‹_› λs lq oq olq nq _ _ S=>?_;walk_at "J";have hdt7:=(Sub.put (o:=oq) nq) _ _ hdt6;refine o_get2 ‹_› (sysNe ‹_› hdt7) (odt.dictOf (St.sub ‹_› hdt7)) λs S=>?_;refine gq λ_ z11=>?_
   obtain ⟨la,row,p,k1,k2,k3,k4,k5⟩:Ex3 λla row p=>And5 ((valueAt (putRows [] (es.map λe=>(e.rl,e.row))) a).getD (.ref lq)=.ref la) (SL (put h' lq oq) la row) (row[0]?=some p) (bnF p=(upN ths a).getD (bnF (Str.ofString "?"))) (p.length≤1000):=by
    rcases hupN a with ⟨q1,q2⟩|⟨e,he',q1,q2⟩
    ·exact ⟨lq,_,_,by rw [q1];rfl,⟨oq,_,put_self ..,olq,.cons _ _ .nil⟩,rfl,by rw [q2];rfl,by decide⟩
    ·obtain ⟨r,hr'⟩:=hrow e he';exact ⟨e.rl,e.row,e.p,by rw [q1];rfl,(hSL e he').sub (sub6.trans (Sub.put nq)),by rw [hr'];rfl,by rw [q2];rfl,hzp e he'⟩
   refine z11 ?_;rw [k1];walk_at "J";refine t_sl (x:=p) ‹_› k2 (by decide) (by decide) k3 λu=>?_;walk_at "J";refine c_basename (k:=5) ‹_› (hr.le (by decide)) (by exact n_t ‹_› (by decide)) λs tk S=>?_;walk_at "J";refine o_neS ?_;walk_at "J";rw [k4]
   have hst:wayP ths en (i + 1)=if (upN ths a).getD (bnF (Str.ofString "?"))≠Str.ofString "" then (upN ths a).getD (bnF (Str.ofString "?")) :: wayP ths en i else wayP ths en i:=by
    show wayStep ths (wayP ths en i)=_;unfold wayStep;rw [hw];rfl
   by_cases q:(upN ths a).getD (bnF (Str.ofString "?"))≠Str.ofString ""
   ·rw [if_pos q] at hst;rw [if_pos (by simpa using q)];walk_at "J";refine n_list ‹_› λs l1 o1' ol1 n1' _ _ S=>?_;walk_at "J";have hlw7:=(Sub.put (o:=o1') n1') _ _ ((Sub.put (o:=oq) nq) _ _ hlw);refine o_addL ‹_› (ol1.isList (St.sub ‹_› (put_self ..))) (olw.isList (St.sub ‹_› hlw7)) (by rw [List.length_singleton];exact om88 hz lk lth hi lvw lw6) λs l2 o2'' ol2 n2'' S=>?_;walk_at "J";have hs:=((Sub.put (o:=oq) nq).trans (Sub.put (o:=o1') n1')).trans (Sub.put (o:=o2'') n2'');refine ⟨_,_,‹_›,l2,o2'',_,subw.trans hs,none_sub (none_sub (none_sub n2'' (Sub.put n1')) (Sub.put nq)) subw,put_self ..,ol2,?_,by walk_at "J.m",by walk_at "J.m"⟩;rw [hst,<-k4];exact .cons _ _ hvw
   ·rw [if_neg q] at hst;rw [if_neg (by simpa using q)];walk_at "J";refine ⟨_,_,‹_›,lw,ow,_,subw.trans (Sub.put nq),nlw,(Sub.put nq) _ _ hlw,olw,?_,by walk_at "J.m",by walk_at "J.m"⟩;rw [hst];exact hvw
  ·rintro m' h' s₁ E₁ ⟨lw,ow,vw,subw,nlw,hlw,olw,hvw,h1,h2⟩ S;rw [lk,<-lth] at hvw;have lvw:=hvw.len_eq;have lw6:=wayP_len ths en ths.length;walk_at "J";refine o_sorted ‹_› (olw.isList (St.sub ‹_› hlw)) hvw (by exact om89 hz lk lth lvw lw6) λs D2 us ss' e S hD2 aL hus hp hsd=>?_;have:=hks _ hp hsd;subst this;have lus:=hus.len_eq;have lpp:=hp.length_eq;obtain ⟨o2,ol2,S,nD2⟩:=takeL S hD2 aL;walk_at "J";refine o_zip ‹_› (put_self ..) ol2 (put_of nD2 hlw) olw (by exact om90 lvw lus lpp) λs e S OE=>?_;have hDh:put h' D2 o2 D=some oS:=put_of nD2 (subw _ _ (put_self ..));have nDw:lw≠D:=(ne_none (put_self ..) nlw).symm;have nDD:D2≠D:=(ne_none (subw _ _ (put_self ..)) nD2).symm;walk_at "J"
   refine for_G (OE hh) (λi m' h''=>Ex2 λo' kv=>And4 (h''=put (put h' D2 o2) D o') (OD w kv o') (SKvs kv (tputs (readB ths ths) ((ss'.zip (wayP ths en ths.length)).take i))) (m' (Str.ofString "sent")=some (.ref D))) (λ_ _ _=>False)
    ⟨oS,_,(put_same hDh).symm,odS,hacc,h2⟩ ?_ ?_ ?_ (λ_ _ _ _ h=>h.elim)
   ·rintro i m' h'' ⟨o',kv,rfl,_⟩;exact mc (λo e=>(put_ne nDD).trans e) (m1 λo e=>(put_ne nDw).trans e)
   ·rintro i v m' h'' s₁ B' E₁ _ hi ⟨T,x,y,rfl,hx,hy,hT⟩ ⟨o',kv,rfl,od',hkv,h1⟩ S;refine gq λ_ z13=>?_;obtain ⟨x',tx,rfl,hx'⟩:=hus.item _ _ hx;obtain ⟨y',ty,rfl,hy'⟩:=hvw.item _ _ hy;refine z13 ?_;walk_at "J";refine a_tuple2 S hh hT λs S=>?_;walk_at "J";have l1:=hkv.len;have l2:=tputs_len ((ss'.zip (wayP ths en ths.length)).take i) (readB ths ths);have l3:=readB_len ths ths;have l4:((ss'.zip (wayP ths en ths.length)).take i).length≤i:=by rw [List.length_take];exact Nat.min_le_left _ _
    refine o_setD ‹_› (put_self ..) od' (by omega) λs o'' od'' S=>?_;rw [put_put] at S;walk_at "J";refine ⟨_,_,S,o'',_,rfl,od'',?_,by walk_at "J.m"⟩;have hz:=List.getElem?_zip_eq_some (z:=(x',y')).mpr ⟨hx',hy'⟩;rw [List.take_add_one,hz];show SKvs _ (tputs _ (_ ++ [(x',y')]));rw [tputs_snoc];exact skvs_stored hkv _ _ _
   ·rintro m' h'' s₁ E₁ ⟨o',kv,rfl,od',hkv,h1⟩ S;rw [List.take_of_length_le (by rw [List.length_zip];exact om91 lus lpp)] at hkv;walk_at "J";refine ⟨D,_,rfl,S.kp,λb o e=>?_,ndD,o',kv,put_self ..,od',hkv⟩;rw [put_ne (ne_none e ndD)];exact put_of nD2 (subw _ _ (subD _ _ (sub _ _ e)))
end
section
variable {w:World} {B:Bs w} {A:Around} {L:Addr} {m m':Str->Option Value} {g:PH} {s:Shared} {env:Env} {E:Value->Shared->Prop} {pl:Sem Bool}
end
theorem list_fi:fillsInplaceSlot (.type "list") "add" (Operator.Add == .Add)=pure false:=by
 unfold fillsInplaceSlot;show (typeLookup (.type "list") (dunderI "add") >>= λfi=>pure (fi.isSome && !isSeqSlot fi))=pure false;rw [typeLookup_type,builtinLookup_eq_fast];kernel_rfl
theorem list_si:seqSlot? (.type "list") (dunderI "add")=pure (some (.builtin "list.__iadd__")):=PySem.seqSlot_of F.slot_list_iadd.lookup (by kernel_rfl)
section
variable {w:World} {B:Bs w} {A:Around} {L e:Addr} {m m':Str->Option Value} {F₀ g g':PH} {s:Shared} {env:Env} {E:Value->Shared->Prop} {pl:Sem Bool} {x dx d:Addr}
theorem o_iaddL {l l2:Addr} {vs ws:List Value} {o o2:Obj} {Q:Value->Shared->Prop} (S:St B L m g s) (hl:g l=some o) (ol:OL vs o) (hl2:g l2=some o2) (ol2:OL ws o2) (hz:vs.length + ws.length≤1000)
  (h:∀ s' o',OL (vs ++ ws) o'->St B L m (put g l o') s'->Q (.ref l) s'):wpAny (model PG w) A (inplaceOp .Add (.ref l) (.ref l2)) Q E s:=by
 have xc:=ol.code;have sz:=sizeLine_eq;refine gq λ_ z1=>?_;obtain ⟨n,rfl⟩:=ol;obtain ⟨n2,rfl⟩:=ol2;refine z1 ?_;have ha:s.TypeIs (.ref l) "list":=⟨_,S.sub hl,rfl⟩;have hb:s.TypeIs (.ref l2) "list":=⟨_,S.sub hl2,rfl⟩;unfold inplaceOp;refine wpAny_holding ?_;refine wpAny_bind (wpAny_typeOf ha (wpAny_bind (wpAny_of_eq list_fi ?_)));show wpAny _ A (if false=true then _ else _) Q E s;rw [if_neg Bool.false_ne_true];refine wpAny_bind (wpAny_binaryOp1_none (nm:="add") ha hb noFill_list_add ?_);refine wpAny_bind (wpAny_of_eq list_si ?_);refine wpAny_bind (wpAny_rule ?_);refine call_meets F.slot_list_iadd ha F.entry_list_iadd (F.args_list_iadd_2 _ _) (PySem.AutoSeq1.list___iadd___list_list_0 l _ n l2 _ n2 ?_ (by rw [List.size_toArray];exact om92 hz sz) (by rw [List.size_toArray,List.size_toArray];exact n_t ‹_› (by decide))) ⟨S.sub hl,S.sub hl2,?_⟩
 ·have hs:(vs.toArray.size + ws.toArray.size)≤1000:=by rw [List.size_toArray,List.size_toArray];exact hz
  have:Builtin.List.listTooLong (vs.toArray.size + ws.toArray.size)=false:=by
   unfold Builtin.List.listTooLong;simp only [decide_eq_false_iff_not];exact om93 sz hs
  rw [this,Bool.and_false];decide
 refine h _ (listOf (vs ++ ws).toArray (if ws=[] then n else n + 1)) ⟨_,rfl⟩ ?_;have:=S.set hl xc (Heap.SameBut.update s.heap l (Obj.mapSeq λx=>x ++ ws.toArray)) (PySem.IsL.update (S.sub hl) (λx=>x ++ ws.toArray)) s.toks;simp only [Obj.mapSeq,List.append_toArray] at this;have e:(vs ++ ws).toArray.size=vs.toArray.size↔ws=[]:=by simp
 simpa using this
theorem O_range {n:Nat} {t:Tok} {Q:Value->Shared->Prop} (S:St B L m g s) (hn:n≤1000)
  (h:∀ s' r,St B L m g s'->(∀ {A':Around},A'.handled=none->Opens B A' L m g s' (.ref r) n (λi v=>∃ t,v=.int i t) [])->Q (.ref r) s'):wpAny (model PG w) A (call (.type "range") [.int n t]) Q E s:=by
 refine call_range_1 ?_;have S₁:=S.push { cls:=.type "range",data:=.fields #[.int 0 s.toks,.int n t,.int 1 (s.toks + 1)] } (s.toks + 1 + 1);refine h _ _ S₁ λ{A'} hh Q E hQ=>?_;have hr:=IsRange.new s.heap 0 n 1 s.toks t (s.toks + 1);refine wpAny_pyIter_range hr (small_one (by decide) (by decide) (by exact om94 hn) (by exact om95 hn)) ?_;have W:=Walks.range (prog:=PG) (w:=w) (A:=A') hh (s.heap.push { cls:=.type "range",data:=.fields #[.int 0 s.toks,.int n t,.int 1 (s.toks + 1)] }).objs.size 0 1 n;have W':Walks PG w A' _ _ _ n (λi v=>∃ t,v=.int i t) _:={ W with item:=λi s Q E hi st hQ=>W.item i s Q E hi st λv h' tk ⟨t,e⟩=>hQ v h' tk ⟨t,by rw [e];congr 1;exact om96⟩ };refine hQ _ _ _ _ [_] _ (S₁.push _ (s.toks + 1 + 1)) W' (λi h st=>m1 ⟨_,st⟩) (Away.nil.push S₁ _) (λb hb=>hb) ?_ (λb hb hn=>absurd hb hn)
 ·have e1:(0 + ((0:Nat):Int) * 1)=0:=by simp
  have e2:((n:Int) - ((0:Nat):Int))=Builtin.Range.rangeSize 0 n 1:=by rw [rangeSize_one];split <;> omega
  rw [e1,e2];exact Heap.get?_push_size _ rfl
theorem o_max2 {a b:Int} {t u:Tok} {Q:Value->Shared->Prop} (S:St B L m g s) (hh:A.handled=none) (h:∀ s' tk,St B L m g s'->Q (.int (max a b) tk) s'):wpAny (model PG w) A (call (.builtin "max") [.int a t,.int b u]) Q E s:=by
 refine max_two_ints hh λh' tk hk=>?_;have S':St B L m g { s with heap:=h',toks:=tk }:=S.grow hk tk
 by_cases q:b > a
 ·rw [if_pos q];have:=h _ u S'
  rwa [Int.max_eq_right (by exact om97 q)] at this
 ·rw [if_neg q];have:=h _ t S'
  rwa [Int.max_eq_left (by exact om98 q)] at this
theorem r_cellN {x:Str} {c:Addr} {v:Value} {Q:Value->Shared->Prop} (S:St B L m g s) (hv:CellAt B g c v) (h:Q v s)
  (hc:env.cells.lookup x=some c:=by rfl) (hk:env.scope.kind=.function:=by rfl) (hl:env.kindOf x=some .cell:=by rfl):wpAny (model PG w) A (loadName env x) Q E s:=
 wpAny_loadName_cell hk hl hc (hv.is S.kp) h
end
noncomputable def itr (f:Str->Str):Nat->Str->Str
 |0,x=>x
 |n + 1,x=>f (itr f n x)
noncomputable def roadP (f:Str->Str) (n:Nat) (x:Str):List Str:=(List.range (n + 1)).map λt=>itr f t x
noncomputable def dups:List Str->List Str
 |[]=>[]
 |x :: r=>if x∈r then x :: dups r else dups r
theorem dups_c {x:Str} {r:List Str}:dups (x :: r)=if x∈r then x :: dups r else dups r:=rfl
noncomputable def tallOne (T:Str->Option Nat) (x:Str) (t:Nat):Str->Option Nat:=λy=>if y=x then some (max ((T x).getD 0) t) else T y
noncomputable def tallRoad (T:Str->Option Nat):Nat->List Str->(Str->Option Nat)
 |_,[]=>T
 |t,x :: r=>tallRoad (tallOne T x t) (t + 1) r
noncomputable def tallAll (f:Str->Str) (n:Nat) (T:Str->Option Nat) (ks:List Str):Str->Option Nat:=ks.foldl (λT x=>tallRoad T 0 (roadP f n x)) T
noncomputable def ringedP (f:Str->Str) (n:Nat) (ks:List Str):List Str:=ks.filter λx=>decide (x∈(roadP f n x).drop 1)
noncomputable def firstsP (f:Str->Str) (n:Nat) (ks:List Str):List Str:=ks.map λx=>(dups (roadP f n x)).headD (Str.ofString "")
noncomputable def dueP (f:Str->Str) (n:Nat) (ks:List Str):List (List Str):=
 (List.range 7).map λlap=>ks.filter λx=>decide (tallAll f n (λ_=>none) ks x=some lap) && !decide (x∈ringedP f n ks)
noncomputable def TallKvs (kvs:List (Str×Value)) (T:Str->Option Nat):Prop:=∀ x,match T x with|none=>valueAt kvs x=none|some k=>∃ t,valueAt kvs x=some (.int (k:Int) t)
theorem TallKvs.put {kvs:List (Str×Value)} {T:Str->Option Nat} (h:TallKvs kvs T) (x:Str) (t:Nat) (u:Tok):TallKvs (stored kvs x (.int (max ((T x).getD 0) t:Nat) u)) (tallOne T x t):=by
 intro y;unfold tallOne;rw [valueAt_stored]
 by_cases q:y=x
 ·rw [if_pos q,if_pos q];exact ⟨u,rfl⟩
 ·rw [if_neg q,if_neg q];exact h y
theorem TallKvs.get {kvs:List (Str×Value)} {T:Str->Option Nat} (h:TallKvs kvs T) (x:Str) (u:Tok):∃ t,(valueAt kvs x).getD (.int 0 u)=.int (((T x).getD 0:Nat):Int) t:=by
 have:=h x;cases q:T x with
 |none=>rw [q] at this;exact ⟨u,by rw [this];rfl⟩
 |some k=>rw [q] at this;obtain ⟨t,e⟩:=this;exact ⟨t,by rw [e];rfl⟩
theorem roadP_snoc (f:Str->Str) (n:Nat) (x:Str):roadP f (n + 1) x=roadP f n x ++ [f (itr f n x)]:=by
 unfold roadP;rw [List.range_succ (n:=n + 1),List.map_append];rfl
theorem roadP_len (f:Str->Str) (n:Nat) (x:Str):(roadP f n x).length=n + 1:=by unfold roadP;simp
theorem roadP_last (f:Str->Str) (n:Nat) (x:Str):(roadP f n x)[n]?=some (itr f n x):=by unfold roadP;simp
theorem roadP_at (f:Str->Str) (n:Nat) (x:Str) {t:Nat} (h:t≤n):(roadP f n x)[t]?=some (itr f t x):=by
 unfold roadP;rw [List.getElem?_map,List.getElem?_range (by exact om99 h)];rfl
theorem dups_snocless (l:List Str) (t:Nat) (x:Str) (h:l[t]?=some x):dups (l.drop t)=(if x∈l.drop (t + 1) then [x] else []) ++ dups (l.drop (t + 1)):=by
 rw [drop_at h];show (if x∈_ then _ else _)=_
 split <;> rfl
structure DueH (w:World) (g g':PH) (L dS dT lRg lF:Addr) (T:Str->Option Nat) (N:Nat) (rg fs:List Str) (vr:Option Value):Prop where
 sub:Sub g g'
 nd:[L + 1,L + 2,L + 3,L + 4,dT,lRg,lF].Nodup
 fr:∀ a∈[L + 1,L + 2,L + 3,L + 4,dT,lRg,lF],g a=none
 cS:∃ o,g' (L + 1)=some o∧o.data=.cell (some (.ref dS))
 cT:∃ o,g' (L + 2)=some o∧o.data=.cell (some (.ref dT))
 cG:∃ o,g' (L + 3)=some o∧o.data=.cell (some (.ref lRg))
 cR:∃ o,g' (L + 4)=some o∧o.data=.cell vr
 dT_:Ex2 λo kvs=>g' dT=some o∧And3 (OD w kvs o) (TallKvs kvs T) (kvs.length≤N)
 rg_:SL g' lRg rg
 fs_:SL g' lF fs
theorem SL.put_ne {g:PH} {l a:Addr} {o:Obj} {ss:List Str} (h:SL g l ss) (hn:l≠a):SL (put g a o) l ss:=let ⟨o,vs,h1,h2,h3⟩:=h;⟨o,vs,(Mine.put_ne hn).trans h1,h2,h3⟩
section
variable {w:World} {B:Bs w} {A:Around} {L dS dT lRg lF:Addr} {g g' g'':PH} {s:Shared} {T:Str->Option Nat} {N:Nat} {rg fs:List Str} {vr:Option Value} {m:Str->Option Value}
theorem DueH.ne (h:DueH w g g' L dS dT lRg lF T N rg fs vr) (i j:Nat) {a b:Addr} (hi:[L + 1,L + 2,L + 3,L + 4,dT,lRg,lF][i]?=some a) (hj:[L + 1,L + 2,L + 3,L + 4,dT,lRg,lF][j]?=some b) (hij:i≠j):a≠b:=by
 rintro rfl;obtain ⟨h1,e1⟩:=List.getElem?_eq_some_iff.mp hi;obtain ⟨h2,e2⟩:=List.getElem?_eq_some_iff.mp hj;have hp:=List.pairwise_iff_getElem.mp (List.nodup_iff_pairwise_ne.mp h.nd);rcases Nat.lt_or_gt_of_ne hij with q|q
 ·exact hp i j h1 h2 q (e1.trans e2.symm)
 ·exact hp j i h2 h1 q (e2.trans e1.symm)
theorem DueH.mono (h:DueH w g g' L dS dT lRg lF T N rg fs vr) (k:Sub g' g''):DueH w g g'' L dS dT lRg lF T N rg fs vr:=
 ⟨h.sub.trans k,h.nd,h.fr,let ⟨o,a,b⟩:=h.cS;⟨o,k _ _ a,b⟩,let ⟨o,a,b⟩:=h.cT;⟨o,k _ _ a,b⟩,let ⟨o,a,b⟩:=h.cG;⟨o,k _ _ a,b⟩,let ⟨o,a,b⟩:=h.cR;⟨o,k _ _ a,b⟩,
  let ⟨o,kv,a,b⟩:=h.dT_;⟨o,kv,k _ _ a,b⟩,h.rg_.sub k,h.fs_.sub k⟩
theorem DueH.other (h:DueH w g g' L dS dT lRg lF T N rg fs vr) {a:Addr} {o:Obj} (hn:a∉[L + 1,L + 2,L + 3,L + 4,dT,lRg,lF]) (hg:g a=none):DueH w g (put g' a o) L dS dT lRg lF T N rg fs vr:=by
 have k:∀ {b o'},b∈[L + 1,L + 2,L + 3,L + 4,dT,lRg,lF]->g' b=some o'->put g' a o b=some o':=λhb e=>by
  rw [Mine.put_ne (by rintro rfl;exact hn hb)];exact e
 refine ⟨λb o' e=>?_,h.nd,h.fr,let ⟨o,a,b⟩:=h.cS;⟨o,k (by simp) a,b⟩,let ⟨o,a,b⟩:=h.cT;⟨o,k (by simp) a,b⟩,let ⟨o,a,b⟩:=h.cG;⟨o,k (by simp) a,b⟩,let ⟨o,a,b⟩:=h.cR;⟨o,k (by simp) a,b⟩,
  let ⟨o,kv,a,b⟩:=h.dT_;⟨o,kv,k (by simp) a,b⟩,let ⟨o,vs,a,b,c⟩:=h.rg_;⟨o,vs,k (by simp) a,b,c⟩,let ⟨o,vs,a,b,c⟩:=h.fs_;⟨o,vs,k (by simp) a,b,c⟩⟩
 rw [Mine.put_ne (by rintro rfl;rw [hg] at e;cases e)];exact h.sub _ _ e
theorem DueH.keepS (h:DueH w g g' L dS dT lRg lF T N rg fs vr) {a:Addr} {o:Obj} (ha:a∈[L + 1,L + 2,L + 3,L + 4,dT,lRg,lF]):Sub g (put g' a o):=λb o' e=>by
 rw [Mine.put_ne (by rintro rfl;rw [h.fr _ ha] at e;cases e)];exact h.sub _ _ e
theorem DueH.setR (h:DueH w g g' L dS dT lRg lF T N rg fs vr) {o:Obj} {v:Option Value} (d:o.data=.cell v):DueH w g (put g' (L + 4) o) L dS dT lRg lF T N rg fs v:=
 ⟨h.keepS (by simp),h.nd,h.fr,let ⟨o,a,b⟩:=h.cS;⟨o,(Mine.put_ne (h.ne 0 3 rfl rfl (by decide))).trans a,b⟩,let ⟨o,a,b⟩:=h.cT;⟨o,(Mine.put_ne (h.ne 1 3 rfl rfl (by decide))).trans a,b⟩,let ⟨o,a,b⟩:=h.cG;⟨o,(Mine.put_ne (h.ne 2 3 rfl rfl (by decide))).trans a,b⟩,⟨o,put_self ..,d⟩,
  let ⟨o,kv,a,b⟩:=h.dT_;⟨o,kv,(Mine.put_ne (h.ne 4 3 rfl rfl (by decide))).trans a,b⟩,h.rg_.put_ne (h.ne 5 3 rfl rfl (by decide)),h.fs_.put_ne (h.ne 6 3 rfl rfl (by decide))⟩
theorem DueH.setCG (h:DueH w g g' L dS dT lRg lF T N rg fs vr) {o:Obj} (d:o.data=.cell (some (.ref lRg))):DueH w g (put g' (L + 3) o) L dS dT lRg lF T N rg fs vr:=
 ⟨h.keepS (by simp),h.nd,h.fr,let ⟨o,a,b⟩:=h.cS;⟨o,(Mine.put_ne (h.ne 0 2 rfl rfl (by decide))).trans a,b⟩,let ⟨o,a,b⟩:=h.cT;⟨o,(Mine.put_ne (h.ne 1 2 rfl rfl (by decide))).trans a,b⟩,⟨o,put_self ..,d⟩,let ⟨o,a,b⟩:=h.cR;⟨o,(Mine.put_ne (h.ne 3 2 rfl rfl (by decide))).trans a,b⟩,
  let ⟨o,kv,a,b⟩:=h.dT_;⟨o,kv,(Mine.put_ne (h.ne 4 2 rfl rfl (by decide))).trans a,b⟩,h.rg_.put_ne (h.ne 5 2 rfl rfl (by decide)),h.fs_.put_ne (h.ne 6 2 rfl rfl (by decide))⟩
theorem DueH.setT (h:DueH w g g' L dS dT lRg lF T N rg fs vr) {o:Obj} {kvs:List (Str×Value)} {T':Str->Option Nat} {N':Nat} (od:OD w kvs o) (ht:TallKvs kvs T') (hl:kvs.length≤N'):DueH w g (put g' dT o) L dS dT lRg lF T' N' rg fs vr:=
 ⟨h.keepS (by simp),h.nd,h.fr,let ⟨o,a,b⟩:=h.cS;⟨o,(Mine.put_ne (h.ne 0 4 rfl rfl (by decide))).trans a,b⟩,let ⟨o,a,b⟩:=h.cT;⟨o,(Mine.put_ne (h.ne 1 4 rfl rfl (by decide))).trans a,b⟩,let ⟨o,a,b⟩:=h.cG;⟨o,(Mine.put_ne (h.ne 2 4 rfl rfl (by decide))).trans a,b⟩,
  let ⟨o,a,b⟩:=h.cR;⟨o,(Mine.put_ne (h.ne 3 4 rfl rfl (by decide))).trans a,b⟩,⟨o,kvs,put_self ..,od,ht,hl⟩,h.rg_.put_ne (h.ne 5 4 rfl rfl (by decide)),h.fs_.put_ne (h.ne 6 4 rfl rfl (by decide))⟩
theorem DueH.setG (h:DueH w g g' L dS dT lRg lF T N rg fs vr) {o:Obj} {vs:List Value} {rg':List Str} (ol:OL vs o) (hv:StrsAre vs rg'):DueH w g (put g' lRg o) L dS dT lRg lF T N rg' fs vr:=
 ⟨h.keepS (by simp),h.nd,h.fr,let ⟨o,a,b⟩:=h.cS;⟨o,(Mine.put_ne (h.ne 0 5 rfl rfl (by decide))).trans a,b⟩,let ⟨o,a,b⟩:=h.cT;⟨o,(Mine.put_ne (h.ne 1 5 rfl rfl (by decide))).trans a,b⟩,let ⟨o,a,b⟩:=h.cG;⟨o,(Mine.put_ne (h.ne 2 5 rfl rfl (by decide))).trans a,b⟩,
  let ⟨o,a,b⟩:=h.cR;⟨o,(Mine.put_ne (h.ne 3 5 rfl rfl (by decide))).trans a,b⟩,let ⟨o,kv,a,b⟩:=h.dT_;⟨o,kv,(Mine.put_ne (h.ne 4 5 rfl rfl (by decide))).trans a,b⟩,⟨o,vs,put_self ..,ol,hv⟩,h.fs_.put_ne (h.ne 6 5 rfl rfl (by decide))⟩
theorem DueH.setF (h:DueH w g g' L dS dT lRg lF T N rg fs vr) {o:Obj} {vs:List Value} {fs':List Str} (ol:OL vs o) (hv:StrsAre vs fs'):DueH w g (put g' lF o) L dS dT lRg lF T N rg fs' vr:=
 ⟨h.keepS (by simp),h.nd,h.fr,let ⟨o,a,b⟩:=h.cS;⟨o,(Mine.put_ne (h.ne 0 6 rfl rfl (by decide))).trans a,b⟩,let ⟨o,a,b⟩:=h.cT;⟨o,(Mine.put_ne (h.ne 1 6 rfl rfl (by decide))).trans a,b⟩,let ⟨o,a,b⟩:=h.cG;⟨o,(Mine.put_ne (h.ne 2 6 rfl rfl (by decide))).trans a,b⟩,
  let ⟨o,a,b⟩:=h.cR;⟨o,(Mine.put_ne (h.ne 3 6 rfl rfl (by decide))).trans a,b⟩,let ⟨o,kv,a,b⟩:=h.dT_;⟨o,kv,(Mine.put_ne (h.ne 4 6 rfl rfl (by decide))).trans a,b⟩,h.rg_.put_ne (h.ne 5 6 rfl rfl (by decide)),⟨o,vs,put_self ..,ol,hv⟩⟩
theorem DueH.notIn (h:DueH w g g' L dS dT lRg lF T N rg fs vr) {a:Addr} (ha:g' a=none):a∉[L + 1,L + 2,L + 3,L + 4,dT,lRg,lF]:=by
 intro hm
 have k:∃ o,g' a=some o:=by
  simp only [List.mem_cons,List.not_mem_nil,or_false] at hm;rcases hm with rfl|rfl|rfl|rfl|rfl|rfl|rfl
  ·obtain ⟨o,e,_⟩:=h.cS;exact ⟨o,e⟩
  ·obtain ⟨o,e,_⟩:=h.cT;exact ⟨o,e⟩
  ·obtain ⟨o,e,_⟩:=h.cG;exact ⟨o,e⟩
  ·obtain ⟨o,e,_⟩:=h.cR;exact ⟨o,e⟩
  ·obtain ⟨o,_,e,_⟩:=h.dT_;exact ⟨o,e⟩
  ·obtain ⟨o,_,e,_⟩:=h.rg_;exact ⟨o,e⟩
  ·obtain ⟨o,_,e,_⟩:=h.fs_;exact ⟨o,e⟩
 obtain ⟨o,e⟩:=k;rw [ha] at e;cases e
theorem DueH.C1 (h:DueH w g g' L dS dT lRg lF T N rg fs vr):CellAt B g' (L + 1) (.ref dS):=let ⟨o,a,b⟩:=h.cS;⟨o,.inl a,b⟩
theorem DueH.C2 (h:DueH w g g' L dS dT lRg lF T N rg fs vr):CellAt B g' (L + 2) (.ref dT):=let ⟨o,a,b⟩:=h.cT;⟨o,.inl a,b⟩
theorem DueH.C3 (h:DueH w g g' L dS dT lRg lF T N rg fs vr):CellAt B g' (L + 3) (.ref lRg):=let ⟨o,a,b⟩:=h.cG;⟨o,.inl a,b⟩
theorem DueH.C4 {v:Value} (h:DueH w g g' L dS dT lRg lF T N rg fs (some v)):CellAt B g' (L + 4) v:=let ⟨o,a,b⟩:=h.cR;⟨o,.inl a,b⟩
end
theorem itr_mem {f:Str->Str} {ks:List Str} (h:∀ x∈ks,f x∈ks) {x:Str} (hx:x∈ks):∀ t,itr f t x∈ks
 |0=>hx
 |t + 1=>h _ (itr_mem h hx t)
theorem tallAll_snoc (f:Str->Str) (n:Nat) (T:Str->Option Nat) (l:List Str) (x:Str):tallAll f n T (l ++ [x])=tallRoad (tallAll f n T l) 0 (roadP f n x):=by unfold tallAll;rw [List.foldl_append];rfl
theorem ringedP_snoc (f:Str->Str) (n:Nat) (l:List Str) (x:Str):ringedP f n (l ++ [x])=ringedP f n l ++ if x∈(roadP f n x).drop 1 then [x] else []:=by
 unfold ringedP;rw [List.filter_append]
 congr 1
 by_cases q:x∈(roadP f n x).drop 1
 ·rw [if_pos q,List.filter_cons,if_pos (by simpa using q)];rfl
 ·rw [if_neg q,List.filter_cons,if_neg (by simpa using q)];rfl
theorem firstsP_snoc (f:Str->Str) (n:Nat) (l:List Str) (x:Str):firstsP f n (l ++ [x])=firstsP f n l ++ [(dups (roadP f n x)).headD (Str.ofString "")]:=by unfold firstsP;rw [List.map_append];rfl
section
variable {w:World} {B:Bs w} {A:Around} {L e:Addr} {m m':Str->Option Value} {F₀ g g':PH} {s:Shared} {env:Env} {E:Value->Shared->Prop} {pl:Sem Bool} {x dx d:Addr}
theorem a_tuple3 {e1 e2 e3:Expr} {k:Nat} {pos:Pos} {t:Addr} {a b c:Value} {Q:Unit->Shared->Prop} (S:St B L m g s) (hh:A.handled=none) (ht:s.heap.IsTuple t [a,b,c].toArray)
  (h:∀ s',St B L m g s'->wpAny (model PG w) A (assign e1 env a) (λ_ s₁=>wpAny (model PG w) A (assign e2 env b) (λ_ s₂=>wpAny (model PG w) A (assign e3 env c) Q E s₂) E s₁) E s')
  (he:(assignEach [e1,e2,e3] env).map (·.2)=[assign e1 env,assign e2 env,assign e3 env]:=by rfl) (hn:(assignEach [e1,e2,e3] env).length=3:=by rfl) (hstar:(assignEach [e1,e2,e3] env).findIdx? (·.1)=none:=by rfl) :
  wpAny (model PG w) A (assign (.Tuple [e1,e2,e3] k pos) env (.ref t)) Q E s:=by
 refine a_tuple S hh ht (λs' S'=>?_) hn hstar;rw [he];exact ai_cons (wpAny_mono (h _ S') (λ_ s₁ h₁=>ai_cons (wpAny_mono h₁ (λ_ s₂ h₂=>ai_cons (wpAny_mono h₂ (λ_ s₃ h₃=>ai_nil h₃) λ_ _ e=>e)) λ_ _ e=>e)) λ_ _ e=>e)
theorem ite_mid {c:Prop} [Decidable c] {e1 e2:Expr} {Q:Value->Shared->Prop} (MID:Value->Shared->Prop) (h1:c->wpAny (model PG w) A (eval e1 env) MID E s) (h2:¬ c->wpAny (model PG w) A (eval e2 env) MID E s) (k:∀ v s,MID v s->Q v s) :
  if c then wpAny (model PG w) A (eval e1 env) Q E s else wpAny (model PG w) A (eval e2 env) Q E s:=by
 by_cases h:c
 ·rw [if_pos h];exact wpAny_mono (h1 h) k λ_ _ e=>e
 ·rw [if_neg h];exact wpAny_mono (h2 h) k λ_ _ e=>e
theorem o_getT {d:Addr} {kvs:List (Str×Value)} {T:Str->Option Nat} {x:Str} {t u:Tok} {Q:Value->Shared->Prop} (S:St B L m g s) (hsys:(d == sysModules)=false) (hd:s.heap.DictOf (strKind PG w) d kvs) (ht:TallKvs kvs T)
  (h:∀ s' t',St B L m g s'->Q (.int (((T x).getD 0:Nat):Int) t') s'):wpAny (model PG w) A (call (.builtin "dict.get") [.ref d,.str x t,.int 0 u]) Q E s:=
 o_get2 S hsys hd λs' S'=>by obtain ⟨t9,e⟩:=ht.get x u;rw [e];exact h _ _ S'
theorem tallRoad_some {y:Str}:∀ (l:List Str) (t:Nat) (T:Str->Option Nat),((T y).isSome=true∨y∈l)->(tallRoad T t l y).isSome=true
 |[],t,T,h=>by
  rcases h with h|h
  ·exact h
  ·cases h
 |x :: r,t,T,h=>by
  refine tallRoad_some r (t + 1) (tallOne T x t) ?_;unfold tallOne
  by_cases q:y=x
  ·rw [if_pos q];exact .inl rfl
  ·rw [if_neg q];rcases h with h|h
   ·exact .inl h
   ·rcases List.mem_cons.mp h with h|h
    ·exact absurd h q
    ·exact .inr h
theorem tallAll_some {f:Str->Str} {n:Nat} {y:Str}:∀ (l:List Str) (T:Str->Option Nat),((T y).isSome=true∨y∈l)->(tallAll f n T l y).isSome=true
 |[],T,h=>by
  rcases h with h|h
  ·exact h
  ·cases h
 |x :: r,T,h=>by
  show (tallAll f n (tallRoad T 0 (roadP f n x)) r y).isSome=true;refine tallAll_some r _ ?_;rcases h with h|h
  ·exact .inl (tallRoad_some _ _ _ (.inl h))
  ·rcases List.mem_cons.mp h with rfl|h
   ·refine .inl (tallRoad_some _ _ _ (.inr ?_));exact List.mem_iff_getElem?.mpr ⟨0,by rw [roadP_at f n y (Nat.zero_le _)];rfl⟩
   ·exact .inr h
theorem sp_due {dS:Addr} {tbl:List (Str×Str)} {ks:List Str} (K:Kp B g s) (hr:Rm A 5) (hh:A.handled=none) (hd:SD w g dS tbl) (hks:∀ ss:List Str,ss.Perm (tbl.map (·.1))->sortedS ss=true->ss=ks)
  (hin:∀ x∈ks,∃ y∈ks,tbl.lookup x=some y) (hN:tbl.length≤20) (hkl:ks.length≤20) (hdup:∀ x∈ks,dups (roadP (tget tbl) tbl.length x)≠[]) :
  codeAny (model PG w) A (.call (.ref 329) ⟨[.ref dS],[]⟩) (λr s'=>Ex4 λU lD lF g'=>And8 (r=.ok (.ret (.ref U))) (s'.heap.IsTuple U [Value.ref lD,Value.ref lF].toArray) (Kp B g' s') (Sub g g') (LL g' lD (dueP (tget tbl) tbl.length ks)) (SL g' lF (firstsP (tget tbl) tbl.length ks)) (g lD=none) (g lF=none)) s:=by
 refine call_cellsA (binds:=[(Str.ofString "sent",.ref dS)]) K hr hh (by rfl) (by kernel_rfl) (by rfl) (m1 (.inr ⟨by rfl,by rfl⟩)) λA L s₁ E hr hh S c=>?_;intro _ _;refine in_envX ?_;intro _;refine gq λ_ z1=>?_;obtain ⟨⟨o1,e1,d1⟩,n1,b1,l1,u1,v1⟩:=c (Str.ofString "sent") (L + 1) (some (.ref dS)) (by rfl) (by rfl);obtain ⟨⟨o2,e2,d2⟩,n2,b2,l2,u2,v2⟩:=c (Str.ofString "tall") (L + 2) none (by rfl) (by rfl);obtain ⟨⟨o3,e3,d3⟩,n3,b3,l3,u3,v3⟩:=c (Str.ofString "ringed") (L + 3) none (by rfl) (by rfl);obtain ⟨⟨o4,e4,d4⟩,n4,b4,l4,u4,v4⟩:=c (Str.ofString "road") (L + 4) none (by rfl) (by rfl);obtain ⟨m₀,S⟩:∃ m₀:Str->Option Value,St B L m₀ g s₁:=⟨_,S⟩;have S₄:=(((S.take e1 b1 l1 u1 v1).take e2 b2 l2 u2 v2).take e3 b3 l3 u3 v3).take e4 b4 l4 u4 v4;obtain ⟨G,hG⟩:∃ G,G=put (put (put (put g (L + 1) o1) (L + 2) o2) (L + 3) o3) (L + 4) o4:=⟨_,rfl⟩;refine z1 ?_;rw [<-hG] at S₄;have g1:G (L + 1)=some o1:=by rw [hG,put_ne (by simp),put_ne (by simp),put_ne (by simp)];exact put_self ..
 have g2:G (L + 2)=some o2:=by rw [hG,put_ne (by simp),put_ne (by simp)];exact put_self ..
 have g3:G (L + 3)=some o3:=by rw [hG,put_ne (by simp)];exact put_self ..
 have g4:G (L + 4)=some o4:=by rw [hG];exact put_self ..
 have sub0:Sub g G:=λb o e=>by rw [hG,put_ne (ne_none e n4),put_ne (ne_none e n3),put_ne (ne_none e n2),put_ne (ne_none e n1)];exact e
 clear hG S c e1 e2 e3 e4;have sz:=sizeLine_eq;walk_at "J";refine r_dict0 ‹_› λs dT oT odT nT _ _ S=>?_;walk_at "J";refine n_list ‹_› λs lRg oR olR nR _ _ S=>?_;walk_at "J";refine n_list ‹_› λs lF oF olF nF _ _ S=>?_;walk_at "J";refine n_tuple ‹_› λs l hl S=>?_;walk_at "J";refine a_tuple3 ‹_› hh hl λs S=>?_;walk_at "J";have k2:=Sub.put (o:=oF) nF _ _ (Sub.put (o:=oR) nR _ _ (Sub.put (o:=oT) nT _ _ g2));refine r_storeCell ‹_› k2 d2 λs o2' d2' S=>?_;walk_at "J";have eT:∀ i:Nat,∀ {o},G (L + i)=some o->L + i≠dT∧L + i≠lRg∧L + i≠lF:=λi o h=>⟨ne_none h nT,ne_none (Sub.put (o:=oT) nT _ _ h) nR,ne_none (Sub.put (o:=oR) nR _ _ (Sub.put (o:=oT) nT _ _ h)) nF⟩;have w1:=eT 1 g1;have w2:=eT 2 g2;have w3:=eT 3 g3;have w4:=eT 4 g4;have wTR:dT≠lRg:=ne_none (put_self ..) nR;have wTF:dT≠lF:=ne_none (Sub.put (o:=oR) nR _ _ (put_self ..)) nF;have wRF:lRg≠lF:=ne_none (put_self ..) nF;have k3:put (put (put (put G dT oT) lRg oR) lF oF) (L + 2) o2' (L + 3)=some o3:=(put_ne (by simp)).trans (Sub.put (o:=oF) nF _ _ (Sub.put (o:=oR) nR _ _ (Sub.put (o:=oT) nT _ _ g3)));refine r_storeCell ‹_› k3 d3 λs o3' d3' S=>?_
 have H:DueH w g (put (put (put (put (put G dT oT) lRg oR) lF oF) (L + 2) o2') (L + 3) o3') L dS dT lRg lF (λ_=>none) 0 [] [] none:=by
  have G1:∀ {a o},G a=some o->a≠L + 2->a≠L + 3->put (put (put (put (put G dT oT) lRg oR) lF oF) (L + 2) o2') (L + 3) o3' a=some o:=λh h2 h3=>by
   rw [put_ne h3,put_ne h2];exact Sub.put (o:=oF) nF _ _ (Sub.put (o:=oR) nR _ _ (Sub.put (o:=oT) nT _ _ h))
  have gn:∀ {a},G a=none->g a=none:=λh=>none_sub h sub0;have nR':G lRg=none:=none_sub nR (Sub.put nT);have nF':G lF=none:=none_sub (none_sub nF (Sub.put nR)) (Sub.put nT)
  refine ⟨λb o e=>G1 (sub0 _ _ e) (ne_none e n2) (ne_none e n3),?_,?_,⟨o1,G1 g1 (by simp) (by simp),d1⟩,⟨o2',by rw [put_ne (by simp)];exact put_self ..,d2'⟩,⟨o3',put_self ..,d3'⟩,⟨o4,G1 g4 (by simp) (by simp),d4⟩,
   ⟨oT,[],?_,odT,λx=>rfl,Nat.le_refl _⟩,⟨oR,[],?_,olR,.nil⟩,⟨oF,[],?_,olF,.nil⟩⟩
  ·simp only [List.nodup_cons,List.mem_cons,List.not_mem_nil,or_false,not_or,not_false_eq_true,List.nodup_nil,and_true];refine ⟨⟨by simp,by simp,by simp,w1.1,w1.2.1,w1.2.2⟩,⟨by simp,by simp,w2.1,w2.2.1,w2.2.2⟩,⟨by simp,w3.1,w3.2.1,w3.2.2⟩,⟨w4.1,w4.2.1,w4.2.2⟩,⟨wTR,wTF⟩,wRF⟩
  ·intro a ha;simp only [List.mem_cons,List.not_mem_nil,or_false] at ha;rcases ha with rfl|rfl|rfl|rfl|rfl|rfl|rfl
   ·exact n1
   ·exact n2
   ·exact n3
   ·exact n4
   ·exact gn nT
   ·exact gn nR'
   ·exact gn nF'
  ·rw [put_ne w3.1.symm,put_ne w2.1.symm,put_ne wTF,put_ne wTR];exact put_self ..
  ·rw [put_ne w3.2.1.symm,put_ne w2.2.1.symm,put_ne wRF];exact put_self ..
  ·rw [put_ne w3.2.2.symm,put_ne w2.2.2.symm];exact put_self ..
 obtain ⟨H1,hH1⟩:∃ H1,H1=put (put (put (put (put G dT oT) lRg oR) lF oF) (L + 2) o2') (L + 3) o3':=⟨_,rfl⟩;rw [<-hH1] at S H;clear hH1 S₄ k2 k3 g1 g2 g3 g4 w1 w2 w3 w4 eT sub0 nT nR nF;have C1:=H.C1 (B:=B);walk_at "J";have nn:=hkl;obtain ⟨oS,kvS,hS1,hS2,hS3⟩:=id hd
 have hlk:∀ x∈ks,tbl.lookup x=some (tget tbl x):=λx hx=>by
  obtain ⟨y,_,h⟩:=hin x hx;rw [tget_of h];exact h
 have hfk:∀ x∈ks,tget tbl x∈ks:=λx hx=>by
  obtain ⟨y,hy,h⟩:=hin x hx;rw [tget_of h];exact hy
 refine o_sortedD ‹_› hh (sysNe ‹_› (H.sub _ _ hS1)) (.inl (H.sub _ _ hS1)) hS2 (by rw [hS3.len];exact Nat.lt_of_le_of_lt ‹_› (by decide)) λs D us ss' e S hD aL hus hp hsd=>?_;rw [hS3.keys] at hp;have:=hks _ hp hsd;subst this;have lu:=hus.len_eq;walk_at "J"
 refine for_O (O_listT S hh ⟨_,hD,rfl,e,rfl⟩ aL) (λi m' g'=>∃ vr,DueH w g g' L dS dT lRg lF (tallAll (tget tbl) tbl.length (λ_=>none) (ss'.take i)) (i * (tbl.length + 1)) (ringedP (tget tbl) tbl.length (ss'.take i)) (firstsP (tget tbl) tbl.length (ss'.take i)) vr∧m' (Str.ofString "firsts")=some (.ref lF)) (λ_ _ _=>False)
  ⟨none,by rw [Nat.zero_mul];exact H,by walk_at "J.m"⟩ (λi m' g' hI b hb o' e=>by cases hb) ?_ ?_ (λ_ _ _ _ h=>h.elim)
 ·rintro i v m' g' s₁ B' E₁ _ hi hv ⟨vr,H,h1⟩ S;refine gq λ_ z3=>?_;obtain ⟨x,tx,rfl,hx⟩:=hus.item _ _ hv;refine z3 ?_;have hxk:=List.mem_of_getElem? hx;walk_at "J";refine n_list ‹_› λs lr orr olr nlr _ _ S=>?_;have nlL:=H.notIn nlr;have glr:g lr=none:=none_sub nlr H.sub;have H:=H.mono (Sub.put (o:=orr) nlr);obtain ⟨oc,hc1,hc2⟩:=H.cR;walk_at "J";refine r_storeCell ‹_› hc1 hc2 λs o4' d4' S=>?_;have H:=H.setR d4';have hlr:put (put g' lr orr) (L + 4) o4' lr=some orr:=(put_ne (by intro e;exact nlL (by rw [e];simp))).trans (put_self ..);obtain ⟨G,hG⟩:∃ G,G=put (put g' lr orr) (L + 4) o4':=⟨_,rfl⟩;rw [<-hG] at S H hlr;clear hG hc1 hc2 nlr;have C1:=H.C1 (B:=B');walk_at "J";have ndS:dS≠lr:=ne_none hS1 glr
  refine for_O (O_dict ‹_› hh (sysNe ‹_› (H.sub _ _ hS1)) (.inl (H.sub _ _ hS1)) hS2) (λj m' g''=>Ex2 λo' vs=>And5 (g''=put G lr o') (OL vs o') (StrsAre vs (roadP (tget tbl) j x)) (m' (Str.ofString "name")=some (.str x tx)) (m' (Str.ofString "firsts")=some (.ref lF))) (λ_ _ _=>False)
   ⟨orr,_,(put_same hlr).symm,olr,.cons _ _ .nil,by walk_at "J.m",by walk_at "J.m"⟩ ?_ ?_ ?_ (λ_ _ _ _ h=>h.elim)
  ·rintro j m'' g'' ⟨o',vs,rfl,_⟩;exact m1 λo e=>(put_ne ndS).trans e
  ·rintro j v m'' g'' s₂ B₂ E₂ _ hj - ⟨o',vs,rfl,ol',hvs,h1,h2⟩ S;rw [hS3.len] at hj;have H:=H.other (o:=o') nlL glr;have C1:=H.C1 (B:=B₂);have C4:=H.C4 (B:=B₂);have lvs:=hvs.len_eq;rw [roadP_len] at lvs;walk_at "J";refine r_meth F.plainAttrs_list F.slot_list_append F.type_list_append ?_;walk_at "J";refine ⟨ol'.typeIs (St.sub ‹_› (put_self ..)),λa e=>by cases e;exact ⟨_,St.sub ‹_› (put_self ..),by obtain ⟨n,rfl⟩:=ol';rfl⟩,?_⟩;walk_at "J";refine o_negI ‹_› λs tk S=>?_;walk_at "J";obtain ⟨tv,htv⟩:=hvs.at (roadP_last (tget tbl) j x);refine t_itemNeg (v:=.str (itr (tget tbl) j x) tv) (ol'.isList (St.sub ‹_› (put_self ..))) (by decide) (by rw [lvs];exact om100 lvs) (by decide) (by rw [lvs,show ((-1 + ((j + 1:Nat):Int)).toNat)=j from by exact om101 lvs];exact htv) ?_;walk_at "J";refine t_sd ‹_› (hd.sub H.sub) (hlk _ (itr_mem hfk hxk j)) λs u S=>?_;walk_at "J";refine o_append ‹_› (put_self ..) ol' (by exact n_t (n_e ‹_›) (n_t (Nat.succ_le_of_lt ‹_›) (n_t ‹_› (by decide)))) λs o'' ol'' S=>?_;rw [put_put] at S;walk_at "J";exact ⟨_,_,‹_›,o'',_,rfl,ol'',by rw [roadP_snoc];exact hvs.append' (.cons _ _ .nil),by walk_at "J.m",by walk_at "J.m"⟩
  ·rintro m'' g'' s₂ E₂ ⟨o',vs,rfl,ol',hvs,h1,h2⟩ S;rw [hS3.len] at hvs;have H:=H.other (o:=o') nlL glr;have hlr:=put_self (g:=G) (a:=lr) (o:=o');obtain ⟨G2,hG2⟩:∃ G2,G2=put G lr o':=⟨_,rfl⟩;rw [<-hG2] at S H hlr;clear hG2;have C3:=H.C3 (B:=B');have C4:=H.C4 (B:=B');have lvs:=hvs.len_eq;rw [roadP_len] at lvs;walk_at "J";refine r_cellN ‹_› C3 ?_;walk_at "J";refine t_sliceFrom ‹_› (ol'.isList (St.sub ‹_› hlr)) (by decide) (by exact om102 hN lvs) λs D1 o1 ol1 n1 S=>?_;walk_at "J";refine o_inL (ol1.isList (St.sub ‹_› (put_self ..))) (strs_drop hvs _) ?_;walk_at "J";refine ite_mid (λv s=>Ex3 λl o vs'=>And5 (v=.ref l) (put G2 D1 o1 l=none) (OL vs' o) (StrsAre vs' (if x∈(roadP (tget tbl) tbl.length x).drop 1 then [x] else [])) (St B' L m'' (put (put G2 D1 o1) l o) s)) (λq=>?_) (λq=>?_) ?_
   ·have q':x∈(roadP (tget tbl) tbl.length x).drop 1:=by simpa using q
    rw [if_pos q'];walk_at "J";refine n_list ‹_› λs l o ol nl _ _ S=>?_;exact ⟨l,o,_,rfl,nl,ol,.cons _ _ .nil,S⟩
   ·have q':¬ x∈(roadP (tget tbl) tbl.length x).drop 1:=by simpa using q
    rw [if_neg q'];walk_at "J";refine n_list ‹_› λs l o ol nl _ _ S=>?_;exact ⟨l,o,_,rfl,nl,ol,.nil,S⟩
   rintro _ s ⟨l,o,vs',rfl,nl,ol,hvs',S⟩;have H:=(H.mono (Sub.put (o:=o1) n1)).mono (Sub.put (o:=o) nl);have hlr:=Sub.put (o:=o) nl _ _ (Sub.put (o:=o1) n1 _ _ hlr);walk_at "J";obtain ⟨og,vg,q1,q2,q3⟩:=H.rg_;have lvg:=q3.len_eq;have lrg:(ringedP (tget tbl) tbl.length (ss'.take i)).length≤20:=n_t (List.length_filter_le ..) (by rw [List.length_take];exact n_t (Nat.min_le_right _ _) ‹_›);have lvs':=hvs'.len_eq;have lvs'':vs'.length≤1:=by rw [lvs'];split <;> simp
   have nlg:lr≠lRg:=λe=>nlL (by rw [e];simp);refine o_iaddL ‹_› q1 q2 (put_self ..) ol (by exact om103 lvg lrg lvs' lvs'') λs og' olg' S=>?_;have H:=H.setG olg' (q3.append' hvs');have hlr:=(put_ne (o:=og') nlg).trans hlr;rw [<-ringedP_snoc] at H;obtain ⟨oc,hc1,hc2⟩:=H.cG;walk_at "J";refine r_storeCell ‹_› hc1 hc2 λs o3'' d3'' S=>?_;have H:=H.setCG d3'';have hlr:=(put_ne (o:=o3'') (show lr≠L + 3 from λe=>nlL (by rw [e];simp))).trans hlr;have C4:=H.C4 (B:=B');obtain ⟨G3,hG3⟩:∃ G3,G3=put (put (put (put G2 D1 o1) l o) lRg og') (L + 3) o3'':=⟨_,rfl⟩;rw [<-hG3] at S H hlr C4;clear hG3;walk_at "J";refine r_meth F.plainAttrs_list F.slot_list_append F.type_list_append ?_;walk_at "J";obtain ⟨of,vf,f1,f2,f3⟩:=id H.fs_;refine ⟨f2.typeIs (St.sub ‹_› f1),λa e=>by cases e;exact ⟨_,St.sub ‹_› f1,by obtain ⟨n,rfl⟩:=f2;rfl⟩,?_⟩;walk_at "J";refine r_listComp ?_;walk_at "J";refine o_enumerate ‹_› hlr ol' λs e S OE=>?_;walk_at "J";refine core_L S (OE hh) (by exact om102 hN lvs) (λi g'' acc=>Sub G3 g''∧∃ ds,And3 (StrsAre acc ds) (ds ++ dups ((roadP (tget tbl) tbl.length x).drop i)=dups (roadP (tget tbl) tbl.length x)) (ds.length≤i)) ⟨Sub.rfl,[],.nil,rfl,Nat.le_refl _⟩ ?_ ?_ ?_ ?_
   ·rintro i g'' acc ⟨_,ds,h1,_,h3⟩;rw [h1.len_eq];exact h3
   ·rintro i g'' acc ⟨hs,_⟩ b hb o e;exact hs _ _ e
   ·rintro j v g'' s B'' C mC acc E' _ hj ⟨T,t,y,rfl,hy,hT⟩ ⟨hsub,ds,hacc,hds,hdl⟩ S;refine gq λ_ z6=>?_;obtain ⟨y',ty,rfl,hy'⟩:=hvs.item _ _ hy;refine z6 ?_;have C4:=(H.mono hsub).C4 (B:=B'');have hlr:=hsub _ _ hlr;walk_at "J";refine a_tuple2 S hh hT λs S=>?_;walk_at "J";refine ifs1 ?_;walk_at "J";refine o_addI ‹_› λs tk S=>?_;walk_at "J";refine t_sliceFrom ‹_› (ol'.isList (St.sub ‹_› hlr)) (by exact om19) (by exact om102 hN lvs) λs D2 o2 ol2 n2 S=>?_;walk_at "J";refine o_inL (ol2.isList (St.sub ‹_› (put_self ..))) (strs_drop hvs _) ?_;walk_at "J";have hdn:=dups_snocless _ _ _ hy';have he:((j:Int) + 1).toNat=j + 1:=by exact om104
    rw [he]
    by_cases q:y'∈(roadP (tget tbl) tbl.length x).drop (j + 1)
    ·rw [if_pos q] at hdn;rw [if_pos (by simpa using q)];walk_at "J";refine ⟨_,_,‹_›,hsub.trans (Sub.put n2),ds ++ [y'],hacc.append' (.cons _ _ .nil),?_,by rw [List.length_append,List.length_singleton];exact Nat.succ_le_succ ‹_›⟩;rw [<-hds,hdn,List.append_assoc]
    ·rw [if_neg q] at hdn;rw [if_neg (by simpa using q)];walk_at "J";refine ⟨_,_,‹_›,hsub.trans (Sub.put n2),ds,hacc,?_,by exact Nat.le_succ_of_le ‹_›⟩;rw [<-hds,hdn];rfl
   ·rintro s' D C mC g'' acc ⟨hsub,ds,hacc,hds,_⟩ hD aD aC hDC nC S';refine fin_valL S' hD aD aC nC hDC λs oc olc nD S=>?_;rw [List.drop_of_length_le (by rw [roadP_len];exact n_e (Eq.symm ‹_›)),show dups []=[] from rfl,List.append_nil] at hds;subst hds
    obtain ⟨z,r,hz⟩:∃ z r,dups (roadP (tget tbl) tbl.length x)=z :: r:=by
     cases q:dups (roadP (tget tbl) tbl.length x) with
     |nil=>exact absurd q (hdup x hxk)
     |cons z r=>exact ⟨z,r,rfl⟩
    walk_at "J";refine t_sl (x:=z) ‹_› ⟨oc,acc,put_self ..,olc,hacc⟩ (by decide) (by decide) (by rw [hz];rfl) λu=>?_;walk_at "J";have H:=H.mono (hsub.trans (Sub.put (o:=oc) nD));have hlr:=hsub.trans (Sub.put (o:=oc) nD) _ _ hlr;have f1:=hsub.trans (Sub.put (o:=oc) nD) _ _ f1;have lvf:=f3.len_eq;have lff:(firstsP (tget tbl) tbl.length (ss'.take i)).length≤20:=by unfold firstsP;rw [List.length_map,List.length_take];exact n_t (Nat.min_le_right _ _) ‹_›
    refine o_append ‹_› f1 f2 (by exact n_t (n_e ‹_›) (n_t ‹_› (by decide))) λs of' olf' S=>?_;have H:=H.setF olf' (f3.append' (.cons z u .nil));have hfz:(dups (roadP (tget tbl) tbl.length x)).headD (Str.ofString "")=z:=by rw [hz];rfl
    rw [<-hfz,<-firstsP_snoc] at H;have hlr:=(put_ne (o:=of') (show lr≠lF from λe=>nlL (by rw [e];simp))).trans hlr;have C4:=H.C4 (B:=B');obtain ⟨G4,hG4⟩:∃ G4,G4=put (put g'' D oc) lF of':=⟨_,rfl⟩;rw [<-hG4] at S H hlr C4;clear hG4 f1;walk_at "J";refine o_enumerate ‹_› hlr ol' λs e S OE=>?_;walk_at "J"
    refine for_G (OE hh) (λj m' g''=>∃ T,And4 (DueH w g g'' L dS dT lRg lF T (i * (tbl.length + 1) + j) (ringedP (tget tbl) tbl.length (ss'.take i ++ [x])) (firstsP (tget tbl) tbl.length (ss'.take i ++ [x])) (some (.ref lr))) (g'' lr=some o') (tallRoad T j ((roadP (tget tbl) tbl.length x).drop j)=tallRoad (tallAll (tget tbl) tbl.length (λ_=>none) (ss'.take i)) 0 (roadP (tget tbl) tbl.length x)) (m' (Str.ofString "firsts")=some (.ref lF))) (λ_ _ _=>False)
     ⟨_,H,hlr,rfl,by walk_at "J.m"⟩ ?_ ?_ ?_ (λ_ _ _ _ h=>h.elim)
    ·rintro j m' g'' ⟨T,_,h1,_⟩;exact keep1 (hlr) (h1)
    ·rintro j v m' g'' s₂ B₂ E₂ _ hj ⟨T',t,y,rfl,hy,hT⟩ ⟨T,H,hlr,htr,h1⟩ S;refine gq λ_ z7=>?_;obtain ⟨y',ty,rfl,hy'⟩:=hvs.item _ _ hy;refine z7 ?_;have C2:=H.C2 (B:=B₂);rw [drop_at hy'] at htr;walk_at "J";refine a_tuple2 S hh hT λs S=>?_;walk_at "J";obtain ⟨ot,kvt,t1,t2,t3,t4⟩:=id H.dT_;refine r_meth F.plainAttrs_dict F.slot_dict_get F.type_dict_get ?_;walk_at "J";refine ⟨(t2.dictOf (St.sub ‹_› t1)).mapOf.typeIs,λa e=>by cases e;exact ⟨_,St.sub ‹_› t1,t2.1.2.1⟩,?_⟩;walk_at "J";refine o_getT ‹_› (sysNe ‹_› t1) (t2.dictOf (St.sub ‹_› t1)) t3 λs tk S=>?_;walk_at "J";refine o_max2 ‹_› hh λs tk S=>?_;walk_at "J";have hmx:max (((T y').getD 0:Nat):Int) (j:Int)=((max ((T y').getD 0) j:Nat):Int):=by exact om105
     have hb:i * (tbl.length + 1)≤20 * 21:=Nat.mul_le_mul (by exact om106 hkl lu hi) (by exact Nat.succ_le_succ ‹_›);refine o_setD ‹_› t1 t2 (by exact om107 hN sz lvs hj t4 hb) λs o'' od'' S=>?_;rw [hmx] at od'';walk_at "J";have l1:=len_stored kvt y' (.int ((max ((T y').getD 0) j:Nat):Int) tk);exact ⟨_,_,‹_›,tallOne T y' j,H.setT od'' (t3.put y' j _) (by exact om108 t4 l1),(put_ne (show lr≠dT from λe=>nlL (by rw [e];simp))).trans hlr,htr,by walk_at "J.m"⟩
    ·rintro m' g'' s₂ E₂ ⟨T,H,hlr,htr,h1⟩ S;rw [List.drop_of_length_le (by rw [roadP_len];exact n_e (Eq.symm ‹_›))] at htr;walk_at "J";refine ⟨_,_,S,some (.ref lr),?_,h1⟩;have htk:ss'.take (i + 1)=ss'.take i ++ [x]:=by rw [List.take_add_one,hx];rfl
     rw [htk,tallAll_snoc,<-htr];have:i * (tbl.length + 1) + vs.length=(i + 1) * (tbl.length + 1):=by rw [lvs,Nat.succ_mul]
     rw [this] at H;exact H
 ·rintro m' g' s₁ E₁ ⟨vr,H,h1⟩ S;rw [lu,List.take_length] at H;have hb:ss'.length * (tbl.length + 1)≤20 * 21:=Nat.mul_le_mul (by assumption) (by exact Nat.succ_le_succ ‹_›);walk_at "J";refine r_listComp ?_;walk_at "J";refine O_range (n:=7) ‹_› (by decide) λs r S OR=>?_;walk_at "J"
  refine core_LC (xc:=Str.ofString "lap") S ((OR hh).toG) (by decide) (λc i g'' acc=>And5 (Sub g' g'') (Ex2 λo v=>g'' c=some o∧o.data=.cell v) (g' c=none) (acc.length=i)
   (∀ j < i,∃ a,And3 (acc[j]?=some (.ref a)) (a≠c) (SL g'' a (ss'.filter λx=>decide (tallAll (tget tbl) tbl.length (λ_=>none) ss' x=some j) && !decide (x∈ringedP (tget tbl) tbl.length ss'))))) ?_ ?_ ?_ ?_ ?_
  ·intro c o d gc _;exact ⟨Sub.put gc,⟨o,_,put_self ..,d⟩,gc,rfl,λj hj=>absurd hj (Nat.not_lt_zero _)⟩
  ·rintro c i g'' acc ⟨_,_,_,h,_⟩;exact n_e ‹_›
  ·rintro c i g'' acc _ b hb;cases hb
  ·rintro c i v g'' s B' C mC acc E' _ hi ⟨tv,rfl⟩ ⟨hsub,⟨oc,vc,hc1,hc2⟩,hcn,hal,hacc⟩ S;walk_at "J";refine r_storeCell ‹_› hc1 hc2 λs oc' dc' S=>?_;walk_at "J";refine ifs0 ?_;rw [if_pos rfl];refine r_listComp ?_;have Hc:=(H.mono hsub).other (o:=oc') (H.notIn hcn) (none_sub hcn H.sub);have hcc:put g'' c oc' c=some oc':=put_self ..;obtain ⟨G5,hG5⟩:∃ G5,G5=put g'' c oc':=⟨_,rfl⟩;rw [<-hG5] at S Hc hcc;have C1:=Hc.C1 (B:=B');walk_at "J";refine o_sortedD ‹_› hh (sysNe ‹_› (Hc.sub _ _ hS1)) (.inl (Hc.sub _ _ hS1)) hS2 (by rw [hS3.len];exact Nat.lt_of_le_of_lt ‹_› (by decide)) λs D2 us2 ss2 e2 S hD2 a2 hus2 hp2 hsd2=>?_;rw [hS3.keys] at hp2;rw [hks _ hp2 hsd2] at hus2;have lu2:=hus2.len_eq;walk_at "J";refine core_L S ((O_listT S hh ⟨_,hD2,rfl,e2,rfl⟩ a2).toG) (by exact n_t (n_e ‹_›) (n_t ‹_› (by decide))) (λj h'' acc2=>G5=h''∧StrsAre acc2 ((ss'.take j).filter λx=>decide (tallAll (tget tbl) tbl.length (λ_=>none) ss' x=some i) && !decide (x∈ringedP (tget tbl) tbl.length ss'))) ⟨rfl,.nil⟩ ?_ ?_ ?_ ?_
   ·rintro j h'' acc2 ⟨_,h⟩;rw [h.len_eq];exact n_t (List.length_filter_le ..) (by rw [List.length_take];exact Nat.min_le_left _ _)
   ·rintro j h'' acc2 _ b hb;cases hb
   ·rintro j v h'' s B2 C2' mC2 acc2 E2 _ hj hv ⟨rfl,hacc2⟩ S;refine gq λ_ z9=>?_;obtain ⟨y,ty,rfl,hy⟩:=hus2.item _ _ hv;refine z9 ?_;have C2:=Hc.C2 (B:=B2);have C3:=Hc.C3 (B:=B2);have Cl:CellAt B2 G5 c (.int i tv):=⟨_,.inl hcc,dc'⟩;have htk:ss'.take (j + 1)=ss'.take j ++ [y]:=by rw [List.take_add_one,hy];rfl
    walk_at "J";refine ifs1 ?_;walk_at "J";refine gq λ_ z10=>?_;obtain ⟨ot,kvt,t1,t2,t3,t4⟩:=id Hc.dT_;obtain ⟨k,hk⟩:=Option.isSome_iff_exists.mp (tallAll_some (f:=tget tbl) (n:=tbl.length) ss' (λ_=>none) (.inr (List.mem_of_getElem? hy)));have hty:=t3 y;rw [hk] at hty;obtain ⟨tk,hty⟩:=hty;refine z10 ?_;refine t_dict ‹_› (t2.dictOf (St.sub ‹_› t1)) hty λs S=>?_;walk_at "J";refine o_eqI ?_;walk_at "J";obtain ⟨og,vg,r1,r2,r3⟩:=Hc.rg_;have hany:(ringedP (tget tbl) tbl.length ss').any (· == y)=decide (y∈ringedP (tget tbl) tbl.length ss'):=by rw [Bool.eq_iff_iff];simp
    by_cases q:k=i
    ·rw [if_pos (decide_eq_true (by rw [q]))];walk_at "J";refine o_notInL (r2.isList (St.sub ‹_› r1)) r3 ?_;walk_at "J";rw [hany]
     by_cases q2:y∈ringedP (tget tbl) tbl.length ss'
     ·rw [decide_eq_true q2];have:([y].filter λx=>decide (tallAll (tget tbl) tbl.length (λ_=>none) ss' x=some i) && !decide (x∈ringedP (tget tbl) tbl.length ss'))=[]:=by simp [q2]
      rw [if_neg (by decide)];walk_at "J";rw [if_neg (by decide)];walk_at "J";rw [htk,List.filter_append,this,List.append_nil];exact ⟨_,_,‹_›,rfl,hacc2⟩
     ·rw [decide_eq_false q2];have:([y].filter λx=>decide (tallAll (tget tbl) tbl.length (λ_=>none) ss' x=some i) && !decide (x∈ringedP (tget tbl) tbl.length ss'))=[y]:=by simp [q2,hk,q]
      refine if_t rfl ?_;walk_at "J";refine if_t rfl ?_;walk_at "J";rw [htk,List.filter_append,this];exact ⟨_,_,‹_›,rfl,hacc2.append' (.cons _ _ .nil)⟩
    ·rw [if_neg (by simp only [decide_eq_true_eq];exact om109 hal q)];have:([y].filter λx=>decide (tallAll (tget tbl) tbl.length (λ_=>none) ss' x=some i) && !decide (x∈ringedP (tget tbl) tbl.length ss'))=[]:=by simp [hk,q]
     rw [if_neg (by decide)];walk_at "J";rw [htk,List.filter_append,this,List.append_nil];exact ⟨_,_,‹_›,rfl,hacc2⟩
   ·rintro s' D C mC h'' acc2 ⟨rfl,hacc2⟩ hD aD aC hDC nC S';refine fin_valL S' hD aD aC nC hDC λs oD olD nD S=>?_;rw [lu2,List.take_length] at hacc2;have hs9:Sub g' G5:=λb o e=>by rw [hG5,put_ne (ne_none e hcn)];exact hsub _ _ e
    walk_at "J";refine ⟨_,_,S,hs9.trans (Sub.put nD),⟨oc',_,Sub.put nD _ _ hcc,dc'⟩,hcn,by rw [List.length_append,hal];rfl,λj hj=>?_⟩
    by_cases q:j=i
    ·subst q;refine ⟨D,by rw [List.getElem?_append_right (by exact n_e ‹_›),hal,Nat.sub_self];rfl,(ne_none hcc nD).symm,oD,acc2,put_self ..,olD,hacc2⟩
    ·obtain ⟨a,h1,h2,h3⟩:=hacc j (by exact Nat.lt_of_le_of_ne (Nat.le_of_lt_succ ‹_›) ‹_›);refine ⟨a,by rw [List.getElem?_append_left (by exact Nat.lt_of_lt_of_eq (Nat.lt_of_le_of_ne (Nat.le_of_lt_succ ‹_›) ‹_›) (Eq.symm ‹_›))];exact h1,h2,?_⟩;have h9:=h3.put_ne (o:=oc') h2;rw [<-hG5] at h9;exact h9.sub (Sub.put nD)
  ·rintro s' D C mC c g'' acc ⟨hsub,_,_,hal,hacc⟩ hD aD aC hDC nC S';refine fin_valL S' hD aD aC nC hDC λs oD olD nD S=>?_;have H:=H.mono (hsub.trans (Sub.put (o:=oD) nD));walk_at "J";refine n_tuple ‹_› λs U hU S=>?_;walk_at "J";refine ⟨U,D,lF,_,rfl,hU,S.kp,H.sub,⟨oD,acc,put_self ..,olD,by rw [hal];unfold dueP;simp,λj r hr=>?_⟩,H.fs_,none_sub (none_sub nD hsub) (DueH.sub ‹_›),H.fr _ (by simp)⟩;unfold dueP at hr;rw [List.getElem?_map] at hr
   have hj:j < 7:=by
    rcases Nat.lt_or_ge j 7 with h|h
    ·exact h
    ·rw [List.getElem?_eq_none (by rw [List.length_range];exact h)] at hr;cases hr
   rw [List.getElem?_range hj] at hr;cases hr;obtain ⟨a,h1,_,h2⟩:=hacc j hj;refine ⟨a,h1,h2.sub (Sub.put nD),?_⟩;obtain ⟨o,vs,q,_⟩:=h2;exact ne_none q nD
end
noncomputable def tb0 (led:Bool):SetTable:=.fresh 0 0 led
noncomputable def tb1 (led:Bool):SetTable:={ mask:=7,place:=#[1],dummies:=#[],finger:=0,led:=led,moves:=0,plain:=true }
noncomputable def so0 (led:Bool):Obj:={ cls:=.type "set",dict:=none,data:=.set #[] 0 (tb0 led) }
noncomputable def so1 (led:Bool):Obj:={ cls:=.type "set",dict:=none,data:=.set #[(1,.bool true)] 1 (tb1 led) }
noncomputable def byT (w:World):Bool:=w.params.followText "set-order"
theorem lay_true (led:Bool):layNew (tb0 led) #[] 1 (.bool true)=(#[(1,.bool true)],tb1 led,false,false):=by cases led <;> rfl
theorem full_true (led:Bool):(tb1 led).tooFull=false:=by cases led <;> rfl
section
variable {w:World} {A:Around} {s:Shared} {E:Value->Shared->Prop} {a:Addr}
theorem hash_true {Q:Int->Shared->Prop} (h:∀ tk,Q 1 { s with toks:=tk }):wpAny (model PG w) A (pyHash (.bool true)) Q E s:=by
 have hT:s.TypeIs (.bool true) "bool":=rfl;unfold pyHash;have hv:[Value.bool true].any Value.onHeap=false:=rfl;refine wpAny_bind ?_;rw [cRoomFor,if_neg (by rw [hv];exact Bool.false_ne_true)];refine wpAny_pure ?_;refine wpAny_bind (wpAny_specialOf hT F.slot_bool_hash.lookup ?_);show wpAny _ _ (if (some (Value.builtin "int.__hash__") == some Value.none)=true then _ else _) Q E s;rw [if_neg (by rw [beq_builtin_none];exact Bool.false_ne_true)];refine wpAny_bind (wpAny_specialOf hT F.slot_bool_hash.lookup ?_);show wpAny _ _ (callSpecialIfBoundUnlessNone? (.bool true) "__hash__" _ >>= _) Q E s
 refine wpAny_bind (wpAny_callSpecialIfBoundUnlessNone?_slot hT F.slot_bool_hash
  (wpAny_call_entry F.slot_bool_hash hT F.entry_int_hash
   (show wpAny _ _ (do ret (<-mkInt 1)) _ _ s from wpAny_ret_mkInt ?_) (F.args_int_hash_1 _)))
 exact wpAny_pure (h _)
theorem add_true0 {led:Bool} {Q:Value->Shared->Prop} (ho:s.heap.get? a=some (so0 led))
  (h:∀ h' tk,Heap.SameBut a s.heap h'->h'.get? a=some (so1 led)->Q .none { s with heap:=h',toks:=tk }):wpAny (model PG w) A (call (.builtin "set.add") [.ref a,.bool true]) Q E s:=by
 have hT:s.TypeIs (.ref a) "set":=⟨_,ho,rfl⟩;refine wpAny_call_entry F.slot_set_add hT F.entry_set_add ?_ (F.args_set_add_2 _ _);unfold Builtin.«set.add» Builtin.Frozenset.oneOther;simp only [List.isEmpty_nil,bind_assoc];unfold Builtin.Frozenset.addrOf setAdd;refine wpAny_bind (wpAny_pure ?_)
 try dsimp only
 refine wpAny_bind (wpAny_pure ?_)
 try dsimp only
 refine wpAny_bind ?_;refine wpAny_holding ?_;refine wpAny_bind (hash_true λtk=>?_);have hf0:(tb0 led).fits (#[]:Array (Int×Value)).size=true:=by cases led <;> rfl
 unfold setAddHashed setAddHashedIn;refine wpAny_holding (wpAny_bind (wpAny_setState_of (s:={ s with toks:=tk }) ho rfl hf0 ?_));dsimp only;rw [if_pos (by decide +kernel)];unfold setAddByScan;refine wpAny_bind ?_;refine wpAny_bind (wpAny_rule ?_);refine wpAny_bind (m:=setScan a (.bool true) 1 true #[]) (wpAny_pure ?_);dsimp only;rw [lay_true];dsimp only;refine wpAny_bind (wpAny_pure ?_);rw [if_pos (by rfl)];refine wpAny_bind (wpAny_pure ?_);refine wpAny_bind (wpAny_storeSet_of (s:={ s with toks:=tk }) ho rfl ?_ (by decide));simp -iota only [if_true,full_true,Bool.and_false,Bool.false_eq_true,if_false];refine wpAny_pure (wpAny_pure ?_);show wpAny _ _ (ret Value.none) _ _ _;refine wpAny_pure ⟨_,rfl,h _ tk (Heap.SameBut.update ..) ?_⟩;exact Heap.get?_update_self _ ho rfl
theorem add_true1 {led:Bool} {Q:Value->Shared->Prop} (ho:s.heap.get? a=some (so1 led))
  (h:∀ tk,Q .none { s with toks:=tk }):wpAny (model PG w) A (call (.builtin "set.add") [.ref a,.bool true]) Q E s:=by
 have hT:s.TypeIs (.ref a) "set":=⟨_,ho,rfl⟩;refine wpAny_call_entry F.slot_set_add hT F.entry_set_add ?_ (F.args_set_add_2 _ _);unfold Builtin.«set.add» Builtin.Frozenset.oneOther;simp only [List.isEmpty_nil,bind_assoc];unfold Builtin.Frozenset.addrOf setAdd;refine wpAny_bind (wpAny_pure ?_)
 try dsimp only
 refine wpAny_bind (wpAny_pure ?_)
 try dsimp only
 refine wpAny_bind ?_;refine wpAny_holding ?_;refine wpAny_bind (hash_true λtk=>?_);have hf0:(tb1 led).fits (#[((1:Int),Value.bool true)]:Array (Int×Value)).size=true:=by cases led <;> rfl
 unfold setAddHashed setAddHashedIn;refine wpAny_holding (wpAny_bind (wpAny_setState_of (s:={ s with toks:=tk }) ho rfl hf0 ?_));dsimp only;rw [if_pos (by decide +kernel)];unfold setAddByScan;refine wpAny_bind ?_;refine wpAny_bind (wpAny_rule ?_);refine wpAny_bind (m:=setScan a (.bool true) 1 true #[((1:Int),Value.bool true)]) ?_;show wpAny _ _ (setScanFrom a (.bool true) 1 true [((1:Int),Value.bool true)] 0) _ _ _;unfold setScanFrom;simp -iota only [beq_self_eq_true,if_true];refine wpAny_bind ?_;unfold setEpoch;refine wpAny_bind (wpAny_setState_of (s:={ s with toks:=tk }) ho rfl hf0 (wpAny_pure ?_));refine wpAny_bind (PySem.SeqAt.EqAt.bool_bool true true PG w _ _ ?_);simp -iota only [beq_self_eq_true,Bool.and_self,if_true];refine wpAny_pure ?_;dsimp only;refine wpAny_pure (wpAny_pure ?_);show wpAny _ _ (ret Value.none) _ _ _;exact wpAny_pure ⟨_,rfl,h tk⟩
noncomputable abbrev IsBIter (h:Heap) (it a:Addr) (f0 f1 sv n:Value):Prop:=h.get? it=some { cls:=.type "set_iterator",dict:=none,data:=.fields #[f0,f1,sv,n,rawInt 1],slots:=#[] }
theorem entry_set_iter:entryFor table "set.__iter__"=some Builtin.«frozenset.__iter__»:=entryFor_alias (id':="frozenset.__iter__") (by kernel_rfl) rfl (by decide +kernel) (by kernel_rfl)
theorem slot_siter_next:Slot "set_iterator" "__next__" "set_iterator.__next__":=
 .of (owner:="set_iterator") (n:="__next__") (by rw [typeLookup_type,builtinLookup_eq_fast];kernel_rfl) (by decide +kernel) (by decide +kernel) (by decide +kernel)
  (by first|exact .inl (by decide +kernel)|exact .inr (by decide +kernel)) (by rw [isSubtype_type];kernel_rfl)
theorem entry_siter_next:entryFor table "set_iterator.__next__"=some Builtin.«set_iterator.__next__»:=entryFor_of_tree (by kernel_rfl)
theorem owner_siter:Manifest.owners.lookup (String.ofList "set_iterator".toList)=some Manifest.sig_set_iterator:=by kernel_rfl
theorem args_siter_next (a:Value):argsOk "set_iterator.__next__" ⟨[a],[]⟩:=by
 unfold argsOk;rw [signature?_of (id:="set_iterator.__next__") (n:=['_','_','t','x','e','n','_','_']) (o:="set_iterator".toList.reverse) (by kernel_rfl) (by rw [List.reverse_reverse];exact owner_siter)];kernel_rfl
theorem iter_true {led:Bool} {Q:Value->Shared->Prop} (ho:s.heap.get? a=some (so1 led))
  (h:∀ h' it tk,(∀ b o,s.heap.get? b=some o->h'.get? b=some o)->s.heap.objs.size≤it->IsBIter h' it a (rawInt 0) (rawInt 0) (.ref a) (rawInt 1)->Q (.ref it) { s with heap:=h',toks:=tk }):wpAny (model PG w) A (pyIter (.ref a)) Q E s:=by
 have hT:s.TypeIs (.ref a) "set":=⟨_,ho,rfl⟩;have hf1:(tb1 led).fits (#[((1:Int),Value.bool true)]:Array (Int×Value)).size=true:=by cases led <;> rfl
 refine wpAny_pyIter_slot hT F.slot_set_iter (wpAny_call_entry F.slot_set_iter hT entry_set_iter ?_ (F.args_set_iter_1 _));unfold Builtin.«frozenset.__iter__» Builtin.Frozenset.slot0 slotArgs;simp only [List.isEmpty_nil,Bool.not_true,Bool.false_eq_true,↓reduceIte,bind_assoc,List.length_nil,bne_self_eq_false];unfold Builtin.Frozenset.addrOf Builtin.Frozenset.sizeOf;refine wpAny_bind (wpAny_pure ?_)
 try dsimp only
 refine wpAny_bind (wpAny_pure ?_);refine wpAny_bind (wpAny_bind (wpAny_setEntries_of ho rfl hf1 (wpAny_pure ?_)));refine wpAny_bind (m:=setDrawn a) ?_;unfold setDrawn setsByText;refine wpAny_bind (wpAny_setState_of ho rfl hf1 (wpAny_bind (wpAny_bind (wpAny_askSetting (wpAny_pure (wpAny_pure ?_))))));dsimp only;rw [if_neg (by intro q;have q2:=(Bool.and_eq_true_iff.mp q).2;cases led <;> exact absurd q2 (by decide +kernel))];refine wpAny_bind (wpAny_pure ?_);unfold setEpoch;refine wpAny_bind (wpAny_bind (wpAny_setState_of ho rfl hf1 (wpAny_pure ?_)));refine wpAny_bind (m:=newFields "set_iterator" _) (wpAny_newObj_type ?_);refine wpAny_pure ⟨_,rfl,"set_iterator",_,⟨_,Heap.get?_push_size _ rfl,rfl⟩,slot_siter_next.lookup,?_⟩;exact h _ _ s.toks (λb o e=>Heap.get?_push_of_some _ e) (Nat.le_refl _) (Heap.get?_push_size _ rfl)
theorem raise_stop {Q:Fin->Shared->Prop} (hh:A.handled=none) (h:∀ h' e,(∀ b o,s.heap.get? b=some o->h'.get? b=some o)->(∃ o,h'.get? e=some o∧o.cls=.type "StopIteration")->E (.ref e) { s with heap:=h' }) :
  wpAny (model PG w) A (newExc (.type "StopIteration") [] >>= λe=>raiseNew e) Q E s:=by
 refine wpAny_bind ?_;simp only [newExc,newTuple];refine wpAny_bind (wpAny_newObj_type ?_ (by size_fits));refine wpAny_bind (m:=firstArgMember _ _) (wpAny_of_eq (a:=Value.none) (by first|rfl|(simp only [firstArgMember];rfl)) ?_)
 refine wpAny_newObj_type ?_ (by size_fits);unfold raiseNew;refine wpAny_bind (wpAny_handled ?_);rw [hh];refine wpAny_bind (wpAny_pure (wpAny_throw ?_));exact h _ _ (λb o e=>Heap.get?_push_of_some _ (Heap.get?_push_of_some _ e)) ⟨_,Heap.get?_push_size _ rfl,rfl⟩
set_option smartUnfolding false in
theorem pick1 {α:Type} (f:Nat->Nat) (x:α):pickOrder f #[x]=#[x]:=congrArg (λk=>Option.casesOn (motive:=λ_=>Array α) [x][k]? #[] λy=>(#[]:Array α).push y) (Nat.mod_one (f 0))
theorem set_next0 {led:Bool} {Q:Option (Value×Nat)->Shared->Prop} (hl:led=!byT w) (ho:s.heap.get? a=some (so1 led)) (h:∀ n,(byT w=false->n=2)->Q (some (.bool true,n)) s):wpAny (model PG w) A (setNext a (Int.toNat 0) (Int.toNat 0) (Int.toNat 1)) Q E s:=by
 have hf1:(tb1 led).fits (#[((1:Int),Value.bool true)]:Array (Int×Value)).size=true:=by cases led <;> rfl
 unfold setNext setsByText;refine wpAny_bind (wpAny_setState_of ho rfl hf1 (wpAny_bind (wpAny_bind (wpAny_askSetting (wpAny_pure ?_)))));dsimp only;cases hb:byT w with
 |true=>
  have hb':(model PG w).w.params.followText "set-order"=true:=hb;rw [hb',if_pos rfl,if_neg (by decide)];refine wpAny_bind ?_;unfold setWalk setsByText;refine wpAny_bind (wpAny_setState_of ho rfl hf1 (wpAny_bind (wpAny_bind (wpAny_askSetting (wpAny_pure ?_)))));dsimp only;rw [hb',if_pos rfl];refine wpAny_bind (wpAny_askSetting (wpAny_pure (wpAny_pure ?_)))
  have:(pickOrder ((model PG w).w.params.setOrder a 1) #[((1:Int),Value.bool true)])[Int.toNat 0]?=some (1,.bool true):=by
   rw [pick1];rfl
  rw [this];exact h _ (λq=>by rw [hb] at q;cases q)
 |false=>
  have hb':(model PG w).w.params.followText "set-order"=false:=hb;rw [hb] at hl;subst hl;rw [hb',if_neg (by decide),if_neg (by decide +kernel)];refine wpAny_bind (wpAny_pure ?_);exact wpAny_pure (h 2 λ_=>rfl)
theorem set_next1 {led:Bool} {f0:Int} {Q:Option (Value×Nat)->Shared->Prop} (hl:led=!byT w) (ho:s.heap.get? a=some (so1 led)) (hf:byT w=false->f0=2) (h:Q none s):wpAny (model PG w) A (setNext a (Int.toNat f0) (Int.toNat 1) (Int.toNat 1)) Q E s:=by
 have hf1:(tb1 led).fits (#[((1:Int),Value.bool true)]:Array (Int×Value)).size=true:=by cases led <;> rfl
 unfold setNext setsByText;refine wpAny_bind (wpAny_setState_of ho rfl hf1 (wpAny_bind (wpAny_bind (wpAny_askSetting (wpAny_pure ?_)))));dsimp only;cases hb:byT w with
 |true=>
  have hb':(model PG w).w.params.followText "set-order"=true:=hb;rw [hb',if_pos rfl,if_neg (by decide)];refine wpAny_bind ?_;unfold setWalk setsByText;refine wpAny_bind (wpAny_setState_of ho rfl hf1 (wpAny_bind (wpAny_bind (wpAny_askSetting (wpAny_pure ?_)))));dsimp only;rw [hb',if_pos rfl];refine wpAny_bind (wpAny_askSetting (wpAny_pure (wpAny_pure ?_)))
  have:(pickOrder ((model PG w).w.params.setOrder a 1) #[((1:Int),Value.bool true)])[Int.toNat 1]?=none:=by
   rw [pick1];rfl
  rw [this];exact h
 |false=>
  have hb':(model PG w).w.params.followText "set-order"=false:=hb;rw [hb] at hl;subst hl;rw [hf hb,hb',if_neg (by decide),if_neg (by decide +kernel)];refine wpAny_bind (wpAny_pure ?_);exact wpAny_pure h
theorem next_true {it:Addr} {led:Bool} {Q:Option Value->Shared->Prop} (hl:led=!byT w) (ho:s.heap.get? a=some (so1 led)) (hi:IsBIter s.heap it a (rawInt 0) (rawInt 0) (.ref a) (rawInt 1))
  (h:∀ h' f0,Heap.SameBut it s.heap h'->IsBIter h' it a (rawInt f0) (rawInt 1) (.ref a) (rawInt 1)->((byT w=false->f0=2))->Q (some (.bool true)) { s with heap:=h' }):wpAny (model PG w) A (pyNext (.ref it)) Q E s:=by
 have hT:s.TypeIs (.ref it) "set_iterator":=⟨_,hi,rfl⟩;have hf1:(tb1 led).fits (#[((1:Int),Value.bool true)]:Array (Int×Value)).size=true:=by cases led <;> rfl
 unfold pyNext
 refine wpAny_bind (wpAny_attempt (wpAny_callSpecial?_slot (name:=Str.ofString "__next__") hT slot_siter_next
  (wpAny_call_entry slot_siter_next hT entry_siter_next ?_ (args_siter_next _))))
 show wpAny _ _ (fieldsOf (.ref it) >>= _) _ _ _;refine wpAny_bind (wpAny_fieldsOf hi rfl ?_);dsimp only [rawInt];refine wpAny_bind (wpAny_setEntries_of ho rfl hf1 ?_);rw [if_neg (by decide)];refine wpAny_bind (set_next0 hl ho λn hn=>?_);dsimp only;refine wpAny_bind (wpAny_setField_rec hi (by simp) λh₁ hi₁ hs₁=>?_);refine wpAny_bind (wpAny_setField_rec hi₁ (by simp) λh₂ hi₂ hs₂=>?_);exact wpAny_pure ⟨_,rfl,wpAny_pure (h _ n (hs₁.trans hs₂) hi₂ λhb=>by rw [hn hb];rfl)⟩
theorem end_true {it:Addr} {led:Bool} {f0:Int} {Q:Option Value->Shared->Prop} (hh:A.handled=none) (hl:led=!byT w) (ho:s.heap.get? a=some (so1 led)) (hi:IsBIter s.heap it a (rawInt f0) (rawInt 1) (.ref a) (rawInt 1)) (hf:byT w=false->f0=2)
  (h:∀ h',(∀ b o,b≠it->s.heap.get? b=some o->h'.get? b=some o)->Q none { s with heap:=h' }):wpAny (model PG w) A (pyNext (.ref it)) Q E s:=by
 have hT:s.TypeIs (.ref it) "set_iterator":=⟨_,hi,rfl⟩;have hf1:(tb1 led).fits (#[((1:Int),Value.bool true)]:Array (Int×Value)).size=true:=by cases led <;> rfl
 unfold pyNext
 refine wpAny_bind (wpAny_attempt (wpAny_callSpecial?_slot (name:=Str.ofString "__next__") hT slot_siter_next
  (wpAny_call_entry slot_siter_next hT entry_siter_next ?_ (args_siter_next _))))
 show wpAny _ _ (fieldsOf (.ref it) >>= _) _ _ _;refine wpAny_bind (wpAny_fieldsOf hi rfl ?_);dsimp only [rawInt];refine wpAny_bind (wpAny_setEntries_of ho rfl hf1 ?_);rw [if_neg (by decide)];refine wpAny_bind (set_next1 hl ho hf ?_);dsimp only;refine wpAny_bind (wpAny_setField_rec hi (by simp) λh₁ hi₁ hs₁=>?_);refine raise_stop (A:=A.in1) hh λh' e hk he=>?_;obtain ⟨o,ho',hc⟩:=he;refine wpAny_bind (wpAny_isInstance (T:="StopIteration") (b:=true) ⟨o,ho',hc⟩ isSubtype_stop ?_);exact wpAny_pure (h _ λb o hb e=>hk _ _ (hs₁.extBut _ _ hb e))
end
theorem compTurn_set (elt target iter:Expr) (ifs:List Expr) (scope:Scope) (pos:Pos) (it acc:Value) (env:Env) :
  compTurn (.SetComp elt [⟨target,iter,ifs,0⟩] scope pos) 0 it acc env=(do
   standAt iter.pos
   match <-pyNext it with
   |none=>pure (.done .next)
   |some v=>
    letOwnedTupleGo target it v
    assign target env v
    let mut ok:=true
    for c in ifs do
     if ok then ok <-isTrue c env (eval c env)
    if ok then
     (do let v <-eval elt env;standAt elt.pos;let _ <-call (.builtin "set.add") [acc,v])
    again (.compLoop (.SetComp elt [⟨target,iter,ifs,0⟩] scope pos) 0 it acc env)):=by rfl
section
variable {w:World} {B:Bs w} {A:Around} {L:Addr} {m m':Str->Option Value} {g:PH} {s:Shared} {env:Env} {E:Value->Shared->Prop} {pl:Sem Bool} {R:Result->Shared->Prop}
theorem codeAny_compStart_set {elt target iter ifs rest scope pos it acc env}
  (h0:codeAny (model PG w) A (.compLoop (.SetComp elt (⟨target,iter,ifs,0⟩ :: rest) scope pos) 0 it acc env) R s)
  (h:wpAny (model PG w) A (pyIter it) (λit' s'=>codeAny (model PG w) A (.compLoop (.SetComp elt (⟨target,iter,ifs,0⟩ :: rest) scope pos) 0 it' acc env) R s')
   (notedBy (model PG w) A env λx s'=>R (.error x) s') s) :
  codeAny (model PG w) A (.compStart (.SetComp elt (⟨target,iter,ifs,0⟩ :: rest) scope pos) 0 it acc env) R s:=by
 refine codeAny_of_tree ?_;show wpAny _ _ ((compStart (.SetComp elt (⟨target,iter,ifs,0⟩ :: rest) scope pos) 0 it acc env).onRaise (λx=>do noteFrame x env;standAt theWindowsPlace)) _ _ s;refine wpAny_notedAt ?_;unfold compStart;show wpAny _ _ (ask >>= _) _ _ s;refine wpAny_bind (wpAny_askSetting (wpAny_ite ?_))
 split
 ·first
   |exact wpAny_bind (wpAny_pure (wpAny_pure (And.intro rfl h0)))
   |exact wpAny_pure (And.intro rfl h0)
 ·first
   |exact wpAny_bind (wpAny_rule (wpAny_bind (wpAny_standAt (wpAny_bind (wpAny_mono h (λit' s' h'=>wpAny_pure (And.intro rfl h')) λ_ _ e=>e)))))
   |exact wpAny_rule (wpAny_bind (wpAny_standAt (wpAny_bind (wpAny_mono h (λit' s' h'=>wpAny_pure (And.intro rfl h')) λ_ _ e=>e))))
theorem add_true {i:Nat} {a:Addr} {led:Bool} {Q:Value->Shared->Prop} (ho:s.heap.get? a=some (if i=0 then so0 led else so1 led))
  (h:∀ h' tk,Heap.SameBut a s.heap h'->h'.get? a=some (so1 led)->Q .none { s with heap:=h',toks:=tk }):wpAny (model PG w) A (call (.builtin "set.add") [.ref a,.bool true]) Q E s:=by
 by_cases q:i=0
 ·rw [if_pos q] at ho;exact add_true0 ho h
 ·rw [if_neg q] at ho;exact add_true1 ho λtk=>h _ tk (Heap.SameBut.refl ..) ho
theorem newSet_b {Q:Value->Shared->Prop} (h:Q (.ref s.heap.objs.size) { s with heap:=s.heap.push (so0 (!byT w)) }):wpAny (model PG w) A (newSet (.type "set")) Q E s:=by
 unfold newSet setsByText;refine wpAny_bind (wpAny_bind (wpAny_askSetting (wpAny_pure ?_)));dsimp only;simp only [newObj];exact wpAny_bind (wpAny_alloc (wpAny_pure h))
theorem loop_testsS {elt target iter:Expr} {ifs:List Expr} {scope:Scope} {pos:Pos} {it acc:Value} {env:Env} {R:Result->Shared->Prop} (I:Nat->Shared->Prop)
  (turn:∀ n s,I n s->wpAny (model PG w) A (pyNext it) (λr s₁=>match r with
   |none=>R (.ok .next) s₁
   |some v=>wpAny (model PG w) A (letOwnedTupleGo target it v) (λ_ s₁'=>wpAny (model PG w) A (assign target env v) (λ_ s₂=>
     wpAny (model PG w) A (forIn ifs true λc r=>if r=true then do let ok <-isTrue c env (eval c env);pure (ForInStep.yield ok) else pure (ForInStep.yield r)) (λok s₃=>
      ok=true∧wpAny (model PG w) A (eval elt env) (λx s₄=>
       wpAny (model PG w) A (call (.builtin "set.add") [acc,x]) (λ_ s₅=>∃ m,m < n∧I m s₅) (notedBy (model PG w) A env λe s'=>R (.error e) s') s₄) (notedBy (model PG w) A env λe s'=>R (.error e) s') s₃) (notedBy (model PG w) A env λe s'=>R (.error e) s') s₂) (notedBy (model PG w) A env λe s'=>R (.error e) s') s₁') (notedBy (model PG w) A env λe s'=>R (.error e) s') s₁) (notedBy (model PG w) A env λe s'=>R (.error e) s') s)
  (n:Nat) (h:I n s):codeAny (model PG w) A (.compLoop (.SetComp elt [⟨target,iter,ifs,0⟩] scope pos) 0 it acc env) R s:=by
 refine codeAny_loop rfl I (λn s hI=>?_) n h;show wpAny _ A ((compTurn (.SetComp elt [⟨target,iter,ifs,0⟩] scope pos) 0 it acc env).onRaise (λx=>do noteFrame x env;theTreesLotGoes x)) _ _ s;refine wpAny_noted ?_;rw [compTurn_set];refine wpAny_bind (wpAny_standAt (wpAny_bind (wpAny_mono (turn n s hI) (λr s₁ h₁=>?_) λ_ _ h'=>h')));cases r with
 |none=>exact wpAny_pure h₁
 |some v=>
  refine wpAny_bind (wpAny_mono h₁ (λ_ s₁' h₁=>?_) λ_ _ h'=>h');refine wpAny_bind (wpAny_mono h₁ (λ_ s₂ h₂=>wpAny_bind (wpAny_mono h₂ (λok s₃ h₃=>?_) λ_ _ h'=>h')) λ_ _ h'=>h');cases ok with
  |false=>exact absurd h₃.1 nofun
  |true=>
   exact wpAny_bind (wpAny_bind (wpAny_mono h₃.2 (λx s₄ h₄=>wpAny_bind (wpAny_standAt (wpAny_bind (wpAny_mono h₄ (λ_ s₅ h₅=>wpAny_pure (wpAny_pure ⟨rfl,h₅⟩)) λ_ _ h'=>h')))) λ_ _ h'=>h'))
theorem core_S {x:Value} {n:Nat} {P:Nat->Value->Heap->Prop} {keep:List Addr} {elt target iter:Expr} {ifs:List Expr} {scope:Scope} {pos:Pos} {cl:List (Str×Addr)} {RR:Value->Addr->Result->Shared->Prop}
  (S:St B env.locals m g s) (O:OpensG B A env.locals m g s target x n P keep)
  (I:Nat->PH->Prop) (hI:I 0 g)
  (hkeep:∀ i g',I i g'->∀ b∈keep,∀ o,g b=some o->g' b=some o)
  (turn:∀ i v g s (B':Bs w) C mC E',Le B B'->i < n->P i v s.heap->I i g->St B' (compEnvC scope cl C env).locals mC g s ->
   ∀ R1:Value->Shared->Prop,(∀ y s,(y=.bool true∧Ex2 λm' g'=>St B' C m' g' s∧I (i + 1) g')->R1 y s)->wpAny (model PG w) A (assign target (compEnvC scope cl C env) v) (λ_ s=>
    wpAny (model PG w) A (forIn ifs true λc r=>if r=true then do let ok <-isTrue c (compEnvC scope cl C env) (eval c (compEnvC scope cl C env));pure (ForInStep.yield ok) else pure (ForInStep.yield r)) (λok s=>
     ok=true∧wpAny (model PG w) A (eval elt (compEnvC scope cl C env)) R1 E' s) E' s) E' s)
  (fin:∀ s' D C mC g',I n g'->s'.heap.get? D=some (if n=0 then so0 (!byT w) else so1 (!byT w))->Away B env.locals g' [D] s'.heap->Away B env.locals g' [C] s'.heap->D≠C->s'.heap.Ns C mC->St B env.locals m g' s'->RR (.ref D) C (.ok .next) s')
  (hcell:∀ y∈scope.names,y.2≠.cell:=by decide) (hkind:scope.kind=.function:=by rfl) :
  wpAny (model PG w) A (pyIter x) (λit s₂=>wpAny (model PG w) A (newSet (.type "set")) (λacc s₃=>
   wpAny (model PG w) A (newFunctionEnv scope env.globals cl [] env.qual none .none (some env)) (λcenv s₄=>
    codeAny (model PG w) A (.compStart (.SetComp elt [⟨target,iter,ifs,0⟩] scope pos) 0 it acc { cenv with scope:=relabel scope env }) (RR acc cenv.locals) s₄) E s₃) E s₂) E s:=
 core_G (σ:=Nat) (υ:=Value) (o0:=so0 (!byT w)) (a0:=0) (Ob:=λh D a=>h.get? D=some (if a=0 then so0 (!byT w) else so1 (!byT w))) (Add:=λa y a'=>y=.bool true∧a'=a + 1) (Lim:=λ_=>True)
  (INS:=λD y K E s=>wpAny (model PG w) A (call (.builtin "set.add") [.ref D,y]) (λ_ s=>K s) E s) (EVT:=λenv v R1 R0 E' s=>wpAny (model PG w) A (assign target env v) (λ_ s=>wpAny (model PG w) A (forIn ifs true λc r=>if r=true then do let ok <-isTrue c env (eval c env);pure (ForInStep.yield ok) else pure (ForInStep.yield r)) (λok s=>ok=true∧wpAny (model PG w) A (eval elt env) R1 E' s) E' s) E' s)
  rfl (λ_ _ h=>newSet_b h) (λ_ _ h=>h) (λ_ _ _ _ h k=>k _ h) (λ_ _ _ h=>⟨_,h⟩) (λ_ _ _ _ _ _ _ ho _ e h=>by cases e.1;cases e.2;exact add_true ho h) (λ_ _ _ _ I h n s hI=>loop_testsS I h n hI) (λ_ _ _ _ _=>codeAny_compStart_set) (ι:=Unit) (cl':=λ_=>cl) (g₁:=λ_=>g) (Ok:=λ_=>True) (λ_ _ S h=>env_born hcell hkind S λcenv B₁ s' a b c=>h () cenv B₁ s' a b c trivial)
  S O (λ_ i g a=>a=i∧I i g) (λ_ _=>⟨rfl,hI⟩) (λ_ _ _ _ _ _=>trivial) (λ_ i g' _ h=>hkeep i g' h.2) (λ_ i v g s B' C mC acc E' h1 h2 h3 h4 h5 R1 k1 R0 k0=>turn i v g s B' C mC E' h1 h2 h3 h4.2 h5 R1 (λy s ⟨e,m',g',a,b⟩=>k1 y s ⟨m',g',_,⟨e,rfl⟩,a,congrArg (· + 1) h4.1,b⟩)) (λ_ s' D C mC g' _ h hO=>fin s' D C mC g' h.2 (h.1▸hO))
end
section
variable {w:World} {B:Bs w} {A:Around} {L a:Addr} {m m':Str->Option Value} {g:PH} {s:Shared} {env:Env} {E:Value->Shared->Prop} {pl:Sem Bool}
theorem r_setComp {elt target iter:Expr} {ifs:List Expr} {scope:Scope} {pos:Pos} {cl:List (Str×Addr)} {Q:Value->Shared->Prop}
  (h:wpAny (model PG w) A (eval iter env) (λx s₁=>wpAny (model PG w) A (pyIter x) (λit s₂=>wpAny (model PG w) A (newSet (.type "set")) (λacc s₃=>
   wpAny (model PG w) A (newFunctionEnv scope env.globals cl [] env.qual none .none (some env)) (λcenv s₄=>
    codeAny (model PG w) A (.compStart (.SetComp elt [⟨target,iter,ifs,0⟩] scope pos) 0 it acc { cenv with scope:=relabel scope env }) (compPost (model PG w) A E none Q acc cenv.locals) s₄) E s₃) E s₂) E s₁) E s)
  (hclos:closureFor scope env=pure cl:=by rfl) (hkind:scope.kind=.function:=by rfl) (hnames:∀ x∈scope.names,x.2=.local->scope.names.lookup x.1=some .local:=by decide)
  (hs:(λx=>foldedSetIterable iter env x)=λx=>pure x:=by rfl):wpAny (model PG w) A (eval (.SetComp elt [⟨target,iter,ifs,0⟩] scope pos) env) Q E s:=by
 rw [arm_eval_SetComp];exact wpAny_comprehension_free (use:=none) rfl (congrFun hs) hclos hkind hnames h
theorem fin_valS {D C:Addr} {mC:Str->Option Value} {o:Obj} {Q:Value->Shared->Prop} (S:St B L m g s) (hD:s.heap.get? D=some o) (aD:Away B L g [D] s.heap) (aC:Away B L g [C] s.heap) (nC:s.heap.Ns C mC) (hDC:D≠C)
  (h:∀ s',g D=none->St B L m (put g D o) s'->Q (.ref D) s'):compPost (model PG w) A E none Q (.ref D) C (.ok .next) s:=by
 have S2:=S.takeA aD hD;refine post_value S2 (aC.put1 hDC) nC hDC λs' S' _=>h _ (aD.g _ (.head _)) S'
theorem a_set1 {e:Expr} {k:Nat} {pos:Pos} {Q:Unit->Shared->Prop} (S:St B L m g s) (hh:A.handled=none) (ho:g a=some (so1 (!byT w)))
  (h:∀ s',St B L m g s'->wpAny (model PG w) A (assign e env (.bool true)) Q E s')
  (he:(assignEach [e] env).map (·.2)=[assign e env]:=by rfl) (hn:(assignEach [e] env).length=1:=by rfl) (hstar:(assignEach [e] env).findIdx? (·.1)=none:=by rfl) :
  wpAny (model PG w) A (assign (.Tuple [e] k pos) env (.ref a)) Q E s:=by
 have hs:=S.sub ho;have hT:s.TypeIs (.ref a) "set":=⟨_,hs,rfl⟩;rw [arm_assign_Tuple];refine wpAny_bind (wpAny_standAt ?_);unfold unpack;rw [hn,hstar];refine wpAny_bind (wpAny_holding ?_);unfold unpackItems;refine wpAny_bind ?_;unfold notIterableAtAll;refine wpAny_bind (wpAny_specialOf hT F.slot_set_iter.lookup ?_);refine wpAny_pure ?_;simp only [Bool.false_eq_true,if_false];refine wpAny_bind (wpAny_holding (iter_true hs λh₁ it tk hk hit hi=>?_));have hai:a≠it:=Nat.ne_of_lt (Nat.lt_of_lt_of_le (Heap.lt_size hs) hit);refine wpAny_bind (wpAny_holding ?_);show wpAny _ _ (pyNext (.ref it) >>= _) _ _ _;refine wpAny_bind (next_true rfl (hk _ _ hs) hi λh₂ f0 hs₂ hi₂ hf=>?_);refine wpAny_bind (wpAny_holding ?_);show wpAny _ _ (pure []) _ _ _;refine wpAny_pure (wpAny_pure ?_);rw [if_neg (by decide)];refine wpAny_bind (wpAny_holding (end_true hh rfl (hs₂.extBut _ _ hai (hk _ _ hs)) hi₂ hf λh₃ hk₃=>?_));simp only [Option.isSome_none,Bool.false_eq_true,if_false];refine wpAny_pure ?_;rw [he]
 have S':St B L m g { s with heap:=h₃,toks:=tk }:=S.grow (λb o e=>by
  have hb:b≠it:=Nat.ne_of_lt (Nat.lt_of_lt_of_le (Heap.lt_size e) hit);exact hk₃ _ _ hb (hs₂.extBut _ _ hb (hk _ _ e))) tk
 exact ai_cons (wpAny_mono (h _ S') (λ_ s₁ h₁=>ai_nil h₁) λ_ _ e=>e)
end
theorem mro_map:mroOf (.type "map")=pure [.type "map",.type "object"]:=by rw [mroOf_type];kernel_rfl
theorem lookup_map_new:typeLookup (.type "map") "__new__"=pure (some (.builtin "map.__new__")):=by rw [typeLookup_type,builtinLookup_eq_fast];kernel_rfl
theorem slot_map_init:Slot "map" "__init__" "object.__init__":=
 .of (owner:="object") (n:="__init__") (by rw [typeLookup_type,builtinLookup_eq_fast];kernel_rfl) (by decide +kernel) (by decide +kernel) (by decide +kernel)
  (by first|exact .inl (by decide +kernel)|exact .inr (by decide +kernel)) (by rw [isSubtype_type];kernel_rfl)
theorem called_map:TypeCalled "map" "map.__new__" "object.__init__":=
 ⟨by decide +kernel,by decide +kernel,⟨_,_,mro_map⟩,madeBy_type mro_map lookup_map_new (by decide +kernel),by decide +kernel,by rw [isSubtype_type];kernel_rfl,slot_map_init⟩
theorem typeCall_map_2 (a b:Value):checkTypeCall "map" ⟨[a,b],[]⟩=pure ():=by kernel_rfl
theorem newCall_map_2 (a b:Value):checkBuiltinCall "map.__new__" ⟨[.type "map",a,b],[]⟩=pure ():=by kernel_rfl
theorem entry_map_new:entryFor table "map.__new__"=some Builtin.«map.__new__»:=entryFor_of_tree (by kernel_rfl)
theorem sub_map:isSubtype (.type "map") (.type "map")=pure true:=by rw [isSubtype_type];kernel_rfl
theorem slot_map_next:Slot "map" "__next__" "map.__next__":=
 .of (owner:="map") (n:="__next__") (by rw [typeLookup_type,builtinLookup_eq_fast];kernel_rfl) (by decide +kernel) (by decide +kernel) (by decide +kernel)
  (by first|exact .inl (by decide +kernel)|exact .inr (by decide +kernel)) (by rw [isSubtype_type];kernel_rfl)
theorem entry_map_next:entryFor table "map.__next__"=some Builtin.«map.__next__»:=entryFor_of_tree (by kernel_rfl)
theorem owner_map:Manifest.owners.lookup (String.ofList "map".toList)=some Manifest.sig_map:=by kernel_rfl
theorem args_map_next (a:Value):argsOk "map.__next__" ⟨[a],[]⟩:=by
 unfold argsOk;rw [signature?_of (id:="map.__next__") (n:=['_','_','t','x','e','n','_','_']) (o:="map".toList.reverse) (by kernel_rfl) (by rw [List.reverse_reverse];exact owner_map)];kernel_rfl
theorem slot_map_iter:Slot "map" "__iter__" "map.__iter__":=
 .of (owner:="map") (n:="__iter__") (by rw [typeLookup_type,builtinLookup_eq_fast];kernel_rfl) (by decide +kernel) (by decide +kernel) (by decide +kernel)
  (by first|exact .inl (by decide +kernel)|exact .inr (by decide +kernel)) (by rw [isSubtype_type];kernel_rfl)
theorem entry_map_iter:entryFor table "map.__iter__"=some Builtin.«dict_keyiterator.__iter__»:=
 entryFor_alias (id':="dict_keyiterator.__iter__") (by kernel_rfl) (by first|rfl|decide +kernel|(unfold String.splitOn;simp +decide [String.splitOnAux])) (by decide +kernel) (by kernel_rfl)
theorem args_map_iter (a:Value):argsOk "map.__iter__" ⟨[a],[]⟩:=by
 unfold argsOk;rw [signature?_of (id:="map.__iter__") (n:=['_','_','r','e','t','i','_','_']) (o:="map".toList.reverse) (by kernel_rfl) (by rw [List.reverse_reverse];exact owner_map)];kernel_rfl
theorem map_no_len:typeLookup (.type "map") "__len__"=pure none:=by rw [typeLookup_type,builtinLookup_eq_fast];kernel_rfl
theorem map_no_hint:typeLookup (.type "map") "__length_hint__"=pure none:=by rw [typeLookup_type,builtinLookup_eq_fast];kernel_rfl
noncomputable def litO (l:Addr) (i:Nat):Obj:={ cls:=.type "list_iterator",data:=.fields #[.ref l,.int i 0] }
noncomputable def tupO (i1:Addr):Obj:={ cls:=.type "tuple",data:=.seq #[.ref i1] }
noncomputable def mapO (T:Addr) (f:Value):Obj:={ cls:=.type "map",data:=.fields #[.ref T,f] }
theorem meets_map_new (f:Value) (l1:Addr) (xs:Array Value) :
  Meets (Builtin.«map.__new__» ⟨[.type "map",f,.ref l1],[]⟩) (λ_ R s=>s.heap.IsList l1 xs ∧
   R (.ok (.ret (.ref ((s.heap.push (litO l1 0)).push (tupO s.heap.objs.size)).objs.size))) { s with heap:=((s.heap.push (litO l1 0)).push (tupO s.heap.objs.size)).push (mapO (s.heap.push (litO l1 0)).objs.size f) }):=
 .of_wp λprog w A R s h=>by
  refine gq λ_ z1=>?_;obtain ⟨hp,g,d,tk,os⟩:=s;obtain ⟨hl1,h⟩:=h;refine z1 ?_;have hsub:=sub_map;have hL1:Heap.IsList (Shared.heap ⟨hp,g,d,tk,os⟩) l1 xs:=hl1
  wp_walk using wpAny_pyIter_list hL1
  exact ⟨_,rfl,h⟩
section
variable {w:World} {B:Bs w} {A:Around} {L a l:Addr} {m m':Str->Option Value} {g:PH} {s:Shared} {env:Env} {E:Value->Shared->Prop} {pl:Sem Bool}
theorem o_map {vs:List Value} {ol:Obj} {f:Value} {Q:Value->Shared->Prop} (S:St B L m g s) (hl:g l=some ol) (x:OL vs ol)
  (h:∀ s' i1 T M,g i1=none->put g i1 (litO l 0) T=none->put (put g i1 (litO l 0)) T (tupO i1) M=none->St B L m (put (put (put g i1 (litO l 0)) T (tupO i1)) M (mapO T f)) s'->Q (.ref M) s') :
  wpAny (model PG w) A (call (.type "map") [f,.ref l]) Q E s:=by
 refine callType_new called_map (by decide) (typeCall_map_2 _ _) (newCall_map_2 _ _) (λobj=>F.args_object_init_3 obj _ _) entry_map_new
  (meets_map_new f l vs.toArray) ⟨x.isList (S.sub hl),?_⟩
 have S1:=S.alloc (litO l 0) s.toks;have S2:=S1.alloc (tupO s.heap.objs.size) s.toks;have S3:=S2.alloc (mapO (s.heap.push (litO l 0)).objs.size f) s.toks;refine ⟨⟨_,Heap.get?_push_size _ rfl,rfl⟩,h _ _ _ _ (S.kp.fresh (Nat.le_refl _)) (S1.kp.fresh (Nat.le_refl _)) (S2.kp.fresh (Nat.le_refl _)) S3⟩
end
noncomputable def LIt (l:Addr) (i:Nat) (o:Obj):Prop:=o.cls=.type "list_iterator"∧o.data=.fields #[.ref l,.int i 0]
noncomputable def dropA (g:PH) (a:Addr):PH:=λb=>if b=a then none else g b
theorem dropA_of {g:PH} {a b:Addr} {o:Obj} (h:g b=some o) (hn:b≠a):dropA g a b=some o:=(if_neg hn).trans h
theorem St.dropI {w:World} {B:Bs w} {L:Addr} {m:Str->Option Value} {g:PH} {s:Shared} (S:St B L m g s) {a:Addr} {o:Obj} {h':Heap} (ha:g a=some o) (hc:∀ vs q t,o.data=.fields vs->vs[1]?≠some (.str q t)) (hk:∀ b o,b≠a->s.heap.get? b=some o->h'.get? b=some o) (tk:Nat) :
  St B L m (dropA g a) { s with heap:=h',toks:=tk }:=by
 have n1:(321:Addr)≠a:=by rintro rfl;rw [S.kp.h1] at ha;cases ha
 have n2:(293:Addr)≠a:=by rintro rfl;rw [S.kp.h2] at ha;cases ha
 have nL:=S.ne ha
 have code:∀ b x vs q t,x.data=.fields vs->vs[1]?=some (.str q t)->g b=some x->dropA g a b=some x:=λb x vs q t h1 h2 e=>by
  refine dropA_of e ?_;rintro rfl;rw [ha] at e;cases e;exact hc _ _ _ h1 h2
 have dr:∀ b x,dropA g a b=some x->b≠a∧g b=some x:=λb x e=>by
  unfold dropA at e
  by_cases hba:b=a
  ·rw [if_pos hba] at e;cases e
  ·rw [if_neg hba] at e;exact ⟨hba,e⟩
 have dn:∀ b,g b=none->dropA g a b=none:=λb e=>by unfold dropA;split;rfl;exact e
 refine ⟨⟨λb x e=>(S.ov _ _ e).of λo' e'=>hk _ _ ?_ e',λb x e=>hk _ _ (dr _ _ e).1 (S.sub (dr _ _ e).2),λb x e=>S.kp.dis _ _ (dr _ _ e).2,S.kp.gens,S.kp.os,S.kp.t1.mono' (λo e=>hk _ _ n1 e) code,S.kp.t2.mono' (λo e=>hk _ _ n2 e) code,dn _ S.kp.h1,dn _ S.kp.h2⟩,?_,dn _ S.off,S.offb,S.o1,S.o2⟩
 ·rintro rfl;rw [S.kp.dis _ _ ha] at e;cases e
 ·obtain ⟨oL,es,ep,e,r⟩:=S.ns;exact ⟨oL,es,ep,hk _ _ nL e,r⟩
theorem lit_code {l:Addr} {i:Nat} {o:Obj} (h:LIt l i o):∀ vs q t,o.data=.fields vs->vs[1]?≠some (.str q t):=λvs q t e=>by rw [h.2] at e;cases e;intro h9;cases h9
section
variable {w:World} {B:Bs w} {A:Around} {L a l:Addr} {m m':Str->Option Value} {g:PH} {s:Shared} {env:Env} {E:Value->Shared->Prop} {pl:Sem Bool} {i1 T M:Addr} {vs:List Value} {ss:List Str} {ol oi:Obj} {i:Nat}
theorem next_map_item {y:Str} {Q:Option Value->Shared->Prop} (S:St B L m g s) (hr:Rm A 4) (hM:g M=some (mapO T (.ref 214))) (hT:g T=some (tupO i1)) (hi:g i1=some oi) (hit:LIt l i oi) (hl:g l=some ol) (x:OL vs ol) (hv:StrsAre vs ss) (hx:ss[i]?=some y)
  (h:∀ s' o' t,LIt l (i + 1) o'->St B L m (put g i1 o') s'->Q (some (.str y t)) s'):wpAny (model PG w) A (pyNext (.ref M)) Q E s:=by
 have hTy:s.TypeIs (.ref M) "map":=⟨_,S.sub hM,rfl⟩;obtain ⟨t,ht⟩:=hv.at hx;unfold pyNext;refine wpAny_bind (wpAny_attempt (wpAny_callSpecial?_slot (name:=Str.ofString "__next__") hTy slot_map_next (wpAny_call_entry slot_map_next hTy entry_map_next ?_ (args_map_next _))));show wpAny _ _ (field (.ref M) 0 >>= _) _ _ _;refine wpAny_bind (wpAny_field (S.sub hM) rfl (x:=.ref T) rfl ?_);refine wpAny_bind (wpAny_seqItems (S.sub hT) rfl ?_);simp only [<-Array.forIn_toList,List.forIn_cons,List.forIn_nil];have hIt:s.heap.IsListIter i1 l i:=⟨_,S.sub hi,hit.1,hit.2⟩;refine wpAny_bind (wpAny_bind (wpAny_bind (wpAny_holding ?_)));refine wpAny_nextOf_list_item hIt (x.isList (S.sub hl)) (by simpa using ht) λh₂ h1₂ hs₂=>?_;refine gq λ_ z1=>?_;obtain ⟨o',ho',hc',hd'⟩:=h1₂;refine z1 ?_;have S':=S.setI hi (λvs q t e=>by rw [hit.2] at e;cases e;intro h9;cases h9) (λb o hb e=>hs₂.extBut b o hb e) ho' s.toks;have nM:M≠i1:=by rintro rfl;rw [hi] at hM;cases hM;exact absurd (Value.type.inj hit.1) (by decide)
 refine wpAny_pure (wpAny_pure ?_);refine wpAny_bind (wpAny_field (S'.sub ((put_ne nM).trans hM)) rfl (x:=.ref 214) rfl ?_);refine wpAny_bind (wpAny_holding ?_);refine c_fspath (k:=3) S' hr.in1 λs S=>?_;refine wpAny_bind (wpAny_letGo ?_);exact wpAny_pure ⟨_,rfl,wpAny_pure (h _ o' t ⟨hc',hd'⟩ S)⟩
theorem next_map_end {Q:Option Value->Shared->Prop} (S:St B L m g s) (hh:A.handled=none) (hM:g M=some (mapO T (.ref 214))) (hT:g T=some (tupO i1)) (hi:g i1=some oi) (hit:LIt l i oi) (hl:g l=some ol) (x:OL vs ol) (hx:vs[i]?=none)
  (h:∀ s',St B L m (dropA g i1) s'->Q none s'):wpAny (model PG w) A (pyNext (.ref M)) Q E s:=by
 have hTy:s.TypeIs (.ref M) "map":=⟨_,S.sub hM,rfl⟩;unfold pyNext;refine wpAny_bind (wpAny_attempt (wpAny_callSpecial?_slot (name:=Str.ofString "__next__") hTy slot_map_next (wpAny_call_entry slot_map_next hTy entry_map_next ?_ (args_map_next _))));show wpAny _ _ (field (.ref M) 0 >>= _) _ _ _;refine wpAny_bind (wpAny_field (S.sub hM) rfl (x:=.ref T) rfl ?_);refine wpAny_bind (wpAny_seqItems (S.sub hT) rfl ?_);simp only [<-Array.forIn_toList,List.forIn_cons,List.forIn_nil];have hIt:s.heap.IsListIter i1 l i:=⟨_,S.sub hi,hit.1,hit.2⟩;refine wpAny_bind (wpAny_bind (wpAny_bind (wpAny_holding ?_)));refine wpAny_nextOf_list_end (A:=A.in1) hh hIt (x.isList (S.sub hl)) (by simpa using hx) λh₂ e hs₂ he=>?_;obtain ⟨o,ho',hc⟩:=he;refine wpAny_bind (wpAny_isInstance (T:="StopIteration") (b:=true) ⟨o,ho',hc⟩ isSubtype_stop ?_);exact wpAny_pure (h _ (S.dropI hi (lit_code hit) (λb o hb e=>hs₂ _ _ hb e) s.toks))
structure MapH (g:PH) (M T i1 l Sd:Addr) (vs acc:List Value) (i:Nat):Prop where
 m_:g M=some (mapO T (.ref 214))
 t_:g T=some (tupO i1)
 i_:∃ o,g i1=some o∧LIt l i o
 l_:∃ o,g l=some o∧OL vs o
 s_:∃ o,g Sd=some o∧OL acc o
 nM:M≠i1
 nT:T≠i1
 nl:l≠i1
 nS:Sd≠i1
 nMS:M≠Sd
 nTS:T≠Sd
 nlS:l≠Sd
theorem extend_map {Sd:Addr} {R:Result->Shared->Prop} (hr:Rm A 6) (hh:A.handled=none) (hv:StrsAre vs ss) (hz:vs.length≤1000):∀ (k i:Nat) (g:PH) (s:Shared) (acc:List Value),vs.length - i=k->i≤vs.length->St B L m g s->MapH g M T i1 l Sd vs acc i->StrsAre acc (ss.take i) ->
  (∀ s' g' acc',Chg [i1,Sd] g g'->(∃ o,g' Sd=some o∧OL acc' o)->StrsAre acc' ss->St B L m g' s'->R (.ok (.ret (.ref Sd))) s')->codeAny (model PG w) A (.builtin "list.extend.loop" ⟨[.ref Sd,.ref M,.ref Sd],[]⟩) R s:=by
 have sz:=sizeLine_eq;have lv:=hv.len_eq;intro k
 induction k with
 |zero=>
  intro i g s acc hk hi S H hacc hR;refine gq λ_ z2=>?_;obtain ⟨oi,hi1,hi2⟩:=H.i_;obtain ⟨ol,hl1,hl2⟩:=H.l_;obtain ⟨os,hs1,hs2⟩:=H.s_;refine z2 ?_;refine codeAny_builtin F.entry_extend_loop ?_;rw [Around.under_plainId F.plain_extend_loop _];show wpAny _ A.in1 (pyNext (.ref M) >>= _) _ _ s;refine wpAny_bind (next_map_end S (A:=A.in1) hh H.m_ H.t_ hi1 hi2 hl1 hl2 (List.getElem?_eq_none (by exact om112 lv hk)) λs' S'=>?_);rw [List.take_of_length_le (by exact om113 lv hk)] at hacc;refine wpAny_pure (hR s' _ acc (λb o hb e=>dropA_of e (by intro q;exact hb (by rw [q];exact .head _))) ⟨os,dropA_of hs1 H.nS,hs2⟩ hacc S')
 |succ k ih=>
  intro i g s acc hk hi S H hacc hR;refine gq λ_ z3=>?_;obtain ⟨oi,hi1,hi2⟩:=H.i_;obtain ⟨ol,hl1,hl2⟩:=H.l_;obtain ⟨os,hs1,hs2⟩:=H.s_;obtain ⟨y,hy⟩:∃ y,ss[i]?=some y:=⟨_,List.getElem?_eq_getElem (by exact om114 lv hk hi)⟩;refine z3 ?_;refine codeAny_builtin F.entry_extend_loop ?_;rw [Around.under_plainId F.plain_extend_loop _];show wpAny _ A.in1 (pyNext (.ref M) >>= _) _ _ s;refine wpAny_bind (next_map_item S (A:=A.in1) (hr.in1.le (by decide)) H.m_ H.t_ hi1 hi2 hl1 hl2 hv hy λs' o' t hit S'=>?_);show wpAny _ A.in1 (updateSeq Sd (·.push (.str y t)) >>= _) _ _ _;have hs1':=(put_ne (o:=o') H.nS).trans hs1;have xc:=hs2.code;obtain ⟨q,rfl⟩:=hs2;have lacc:=hacc.len_eq;have lacc2:acc.length≤i:=by rw [lacc,List.length_take];exact Nat.min_le_left _ _
  refine wpAny_bind (wpAny_updateSeq (S'.sub hs1') rfl (wpAny_pure ⟨plainId_quiet F.plain_extend_loop _,?_⟩) (by rw [List.size_toArray];exact om115 hz sz lv hi lacc lacc2) (by rw [Array.size_push,List.size_toArray];exact om116 hz sz lv hi lacc lacc2));have S2:=S'.set hs1' xc (Heap.SameBut.update s'.heap Sd (Obj.mapSeq (·.push (.str y t)))) (Heap.get?_update_self _ (S'.sub hs1') rfl) s'.toks
  refine ih (i + 1) _ _ (acc ++ [.str y t]) (by exact om117 lv hk hi) (by exact om118 lv hk hi) S2 ⟨(put_ne H.nMS).trans ((put_ne H.nM).trans H.m_),(put_ne H.nTS).trans ((put_ne H.nT).trans H.t_),⟨o',(put_ne H.nS.symm).trans (put_self ..),hit⟩,
   ⟨ol,(put_ne H.nlS).trans ((put_ne H.nl).trans hl1),hl2⟩,⟨_,put_self ..,q + 1,by simp [Obj.mapSeq]⟩,H.nM,H.nT,H.nl,H.nS,H.nMS,H.nTS,H.nlS⟩ ?_ λs'' g' acc' hch=>hR s'' g' acc' λb o hb e=>hch _ _ hb ?_
  ·rw [List.take_add_one,hy];exact hacc.append' (.cons _ _ .nil)
  ·rw [put_ne (by rintro rfl;exact hb (.tail _ (.head _))),put_ne (by rintro rfl;exact hb (.head _))];exact e
end
section
variable {w:World} {B:Bs w} {A:Around} {L a l:Addr} {m m':Str->Option Value} {g:PH} {s:Shared} {env:Env} {E:Value->Shared->Prop} {pl:Sem Bool} {i1 T M:Addr} {vs:List Value} {ss:List Str} {ol oi:Obj} {i:Nat}
theorem collect_map {Q:List Value->Shared->Prop} (S:St B L m g s) (hr:Rm A 8) (hh:A.handled=none) (hv:StrsAre vs ss) (hz:vs.length≤1000) (hM:g M=some (mapO T (.ref 214))) (hT:g T=some (tupO i1)) (hi:g i1=some oi) (hit:LIt l 0 oi) (hl:g l=some ol) (x:OL vs ol)
  (nM:M≠i1) (nT:T≠i1) (nl:l≠i1)
  (h:∀ s' g' acc,(∀ b o,b≠i1->g b=some o->g' b=some o)->StrsAre acc ss->St B L m g' s'->Q acc s'):wpAny (model PG w) A (collect (.ref M)) Q E s:=by
 have sz:=sizeLine_eq;unfold collect;refine wpAny_bind (wpAny_runValue (codeAny_builtin F.entry_proto_collect ?_));rw [Around.under_plainId F.plain_proto_collect _];show wpAny _ A.in1 (newList [] >>= λl=>again (.builtin "list.__iadd__" ⟨[l,.ref M],[]⟩)) _ _ s;refine wpAny_bind (n_list S λs Sd os ols nS _ _ S=>?_);refine wpAny_pure ⟨plainId_quiet F.plain_list_iadd _,codeAny_builtin F.entry_list_iadd ?_⟩;rw [Around.under_plainId F.plain_list_iadd _];have nMS:M≠Sd:=ne_none hM nS;have hTy:s.TypeIs (.ref M) "map":=⟨_,S.sub ((put_ne nMS).trans hM),rfl⟩;show wpAny _ A.in1 (Builtin.List.listExtendWith (.ref Sd) (.ref M) (.ref Sd)) _ _ _;unfold Builtin.List.listExtendWith;refine wpAny_bind (wpAny_typeOf hTy ?_);have h1:Builtin.List.listSameRef (.ref Sd) (.ref M)=false:=by simp [Builtin.List.listSameRef,nMS.symm]
 have h2:(Value.type "map" == Value.type "list")=false:=by decide
 have h3:(Value.type "map" == Value.type "tuple")=false:=by decide
 simp -iota only [h1,h2,h3,Bool.or_false,Bool.false_eq_true,if_false];refine wpAny_bind (wpAny_pyIter_slot hTy slot_map_iter (wpAny_call_entry slot_map_iter hTy entry_map_iter ?_ (args_map_iter _)));show wpAny _ _ (ret (.ref M)) _ _ _;refine wpAny_pure ⟨_,rfl,"map",_,hTy,slot_map_next.lookup,?_⟩;refine wpAny_bind (wpAny_holding ?_);unfold Builtin.List.listLengthHint;refine wpAny_bind (wpAny_specialOf hTy map_no_len ?_);show wpAny _ A.in1 (specialOf (Value.ref M) (Str.ofString "__length_hint__") >>= _) _ _ _;refine wpAny_bind (wpAny_specialOf hTy map_no_hint ?_);refine wpAny_pure ?_;show wpAny _ A.in1 (rule "list.extend.makes-room" >>= λ_=>Builtin.List.listTouch (.ref Sd) >>= λ_=>again (.builtin "list.extend.loop" ⟨[.ref Sd,.ref M,.ref Sd],[]⟩)) _ _ _;refine wpAny_bind (wpAny_rule ?_);refine wpAny_bind ?_;show wpAny _ A.in1 (updateSeq Sd (·.push .none) >>= λ_=>updateSeq Sd (·.pop)) _ _ _;have xc:=ols.code;obtain ⟨q,rfl⟩:=ols;refine wpAny_bind (wpAny_updateSeq (S.sub (put_self ..)) rfl ?_ (by decide) (by decide));have S2:=S.set (put_self ..) xc (Heap.SameBut.update s.heap Sd (Obj.mapSeq (·.push Value.none))) (Heap.get?_update_self _ (S.sub (put_self ..)) rfl) s.toks;rw [put_put] at S2;refine wpAny_updateSeq (S2.sub (put_self ..)) rfl ?_ (by decide) (by decide);have S3:=S2.set (o':=_) (put_self ..) (by rintro ⟨vs,e⟩;cases e) (Heap.SameBut.update _ Sd (Obj.mapSeq (·.pop))) (Heap.get?_update_self _ (S2.sub (put_self ..)) rfl) s.toks;rw [put_put] at S3;refine wpAny_pure ⟨plainId_quiet F.plain_extend_loop _,?_⟩;have ns:∀ {b o},g b=some o->b≠Sd:=λe=>ne_none e nS;have nSi:Sd≠i1:=(ns hi).symm;refine extend_map (hr.le (by decide)) hh hv hz vs.length 0 _ _ [] rfl (Nat.zero_le _) S3 ⟨(put_ne nMS).trans hM,(put_ne (ns hT)).trans hT,⟨oi,(put_ne (ns hi)).trans hi,hit⟩,⟨ol,(put_ne (ns hl)).trans hl,x⟩,⟨_,put_self ..,q + 1 + 1,by simp [Obj.mapSeq]⟩,nM,nT,nl,nSi,nMS,ns hT,ns hl⟩ .nil λs' g' acc hch hs hacc S'=>?_;refine gq λ_ z1=>?_;obtain ⟨os,hs1,q',rfl⟩:=hs;refine z1 ?_;show wpAny _ A (load Sd >>= _) _ _ s';refine wpAny_bind (wpAny_load (S'.sub hs1) ?_);refine wpAny_pure (h s' g' acc (λb o hb e=>hch _ _ ?_ ((put_ne (ns e)).trans e)) hacc S');simp only [List.mem_cons,List.not_mem_nil,or_false,not_or];exact ⟨hb,ns e⟩
theorem o_tupleMap {Q:Value->Shared->Prop} (S:St B L m g s) (hr:Rm A 12) (hh:A.handled=none) (hv:StrsAre vs ss) (hz:vs.length≤1000) (hM:g M=some (mapO T (.ref 214))) (hT:g T=some (tupO i1)) (hi:g i1=some oi) (hit:LIt l 0 oi) (hl:g l=some ol) (x:OL vs ol)
  (nM:M≠i1) (nT:T≠i1) (nl:l≠i1)
  (h:∀ s' U oU g' acc,(∀ b o,b≠i1->g b=some o->g' b=some o)->OT acc oU->StrsAre acc ss->g' U=none->St B L m (put g' U oU) s'->Q (.ref U) s'):wpAny (model PG w) A (call (.type "tuple") [.ref M]) Q E s:=by
 have sz:=sizeLine_eq;refine callType_codes (Q₁:=λobj s₁=>s₁.TypeIs obj "tuple"∧Q obj s₁) F.called_tuple (F.typeCall_tuple_1 _) F.entry_object_init ?_ λobj s₁ h₁=>?_
 rotate_left
 ·exact ⟨h₁.1,F.args_object_init_2 obj _,object_init_meets F.called_tuple.init.lookup F.called_tuple.made (by decide) PG w A.in1 _ s₁ ⟨h₁.1,rfl,h₁.2⟩⟩
 refine codeAny_of_tree ?_;show wpAny _ A.in1.in1 (do checkBuiltinCall "tuple.__new__" ⟨[.type "tuple",.ref M],[]⟩;again (.builtin "tuple.__new__" ⟨[.type "tuple",.ref M],[]⟩)) _ _ s;refine wpAny_bind (wpAny_of_eq (F.newCall_tuple_1 _) (wpAny_pure ⟨plainId_quiet F.plain_tuple_new _,codeAny_builtin F.entry_tuple_new ?_⟩));rw [Around.under_plainId F.plain_tuple_new _];have hsub:=sub_tuple_self;have hinit:=init_tuple_lookup;have hmh:=madeHere_tuple;have hTI:s.TypeIs (.ref M) "map":=⟨_,S.sub hM,rfl⟩
 wp_walk using wpAny_typeOf hTI,collect_map S (hr.in1.in1.le (by decide)) hh hv hz hM hT hi hit hl x nM nT nl
 intro s' g' acc hch hacc S';show wpAny _ _ (Builtin.Tuple.tupleExact acc.toArray >>= λv=>ret v) _ _ _;unfold Builtin.Tuple.tupleExact;have lacc:=hacc.len_eq;have lv:=hv.len_eq;refine wpAny_bind (wpAny_newObj_type ?_ (by show acc.toArray.size≤sizeLine;rw [List.size_toArray];exact om119 hz sz lacc lv));refine wpAny_pure ⟨⟨_,Heap.get?_push_size _ rfl,rfl⟩,?_⟩;exact h _ _ _ g' acc hch ⟨rfl,0,rfl⟩ hacc (S'.kp.fresh (Nat.le_refl _)) (S'.alloc { cls:=.type "tuple",data:=.seq acc.toArray } s'.toks)
end
open PySem.SeqAt PySem.MeetsSeq3 PySem.AutoSeq1
noncomputable def cmpL (gt:Bool):List Str->List Str->Bool
 |[],[]=>false
 |[],_ :: _=>!gt
 |_ :: _,[]=>gt
 |x :: a,y :: b=>if x=y then cmpL gt a b else (if gt then decide (y.cps.toList < x.cps.toList) else decide (x.cps.toList < y.cps.toList))
theorem cmpL_c {gt:Bool} {x y:Str} {a b:List Str}:cmpL gt (x :: a) (y :: b)=if x=y then cmpL gt a b else (if gt then decide (y.cps.toList < x.cps.toList) else decide (x.cps.toList < y.cps.toList)):=rfl
theorem ltl_loop (l b:Addr) (vs ws:List Value) (xs ys:List Str) (n n2:Nat) (hx:StrsAre vs xs) (hy:StrsAre ws ys) (k:Nat) :
  ∀ i:Nat,i≤vs.length->i≤ws.length->min vs.length ws.length - i=k->Meets (Builtin.«list.__eq__.loop» ⟨[.ref l,.ref b,rawInt i,rawInt 0],[]⟩)
   (λA R s=>s.heap.get? l=some (listOf vs.toArray n)∧s.heap.get? b=some (listOf ws.toArray n2)∧R (.ok (.ret (.bool (cmpL false (xs.drop i) (ys.drop i))))) s):=by
 have lx:=hx.len_eq;have ly:=hy.len_eq
 induction k with
 |zero=>
  intro i hi1 hi2 hk prog w A R s h;refine gq λ_ z1=>?_;obtain ⟨hp,g,d,tk,os⟩:=s;obtain ⟨hl,hb,h⟩:=h;refine z1 ?_;have hl':hp.get? l=some { cls:=.type "list",dict:=none,data:=.seq vs.toArray n,slots:=#[] }:=hl;have hb':hp.get? b=some { cls:=.type "list",dict:=none,data:=.seq ws.toArray n2,slots:=#[] }:=hb
  wp_walk using wpAny_loadPart' hl',wpAny_loadPart' hb'
  rcases Nat.lt_or_ge i vs.length with q1|q1
  ·have q2:ws.length≤i:=by exact om120 lx ly hk q1
   have e1:vs.toArray[((i:Nat):Int).toNat]?=some vs[i]:=by simp [q1]
   have e2:ws.toArray[((i:Nat):Int).toNat]?=none:=by simp;assumption
   rw [e1,e2]
   wp_walk using wpAny_loadPart' hl',wpAny_loadPart' hb'
   show R (.ok (.ret (.bool (decide (vs.toArray.size < ws.toArray.size))))) _;rw [List.drop_eq_nil_iff.mpr (show ys.length≤i by exact om121 ly hi2 q2),List.drop_eq_getElem_cons (show i < xs.length by exact Nat.lt_of_lt_of_eq ‹_› ‹_›)] at h;have e3:decide (vs.toArray.size < ws.toArray.size)=false:=by simp;exact om122 lx ly hi2 q1 q2
   rw [e3];exact h
  ·have e1:vs.toArray[((i:Nat):Int).toNat]?=none:=by simp;assumption
   rw [e1]
   wp_walk using wpAny_loadPart' hl',wpAny_loadPart' hb'
   show R (.ok (.ret (.bool (decide (vs.toArray.size < ws.toArray.size))))) _;rw [List.drop_eq_nil_iff.mpr (show xs.length≤i by exact om123 lx hi1 q1)] at h;rcases Nat.lt_or_ge i ws.length with q2|q2
   ·rw [List.drop_eq_getElem_cons (show i < ys.length by exact Nat.lt_of_lt_of_eq ‹_› ‹_›)] at h;have e3:decide (vs.toArray.size < ws.toArray.size)=!false:=by simp;exact om124 lx ly hi1 q1 q2
    rw [e3];exact h
   ·rw [List.drop_eq_nil_iff.mpr (show ys.length≤i by exact om123 ly hi2 q2)] at h;have e3:decide (vs.toArray.size < ws.toArray.size)=false:=by simp;exact om125 lx ly hi1 hi2 q1 q2
    rw [e3];exact h
 |succ k ih=>
  intro i hi1 hi2 hk prog w A R s h;refine gq λ_ z2=>?_;obtain ⟨hp,g,d,tk,os⟩:=s;obtain ⟨hl,hb,h⟩:=h;have hl':hp.get? l=some { cls:=.type "list",dict:=none,data:=.seq vs.toArray n,slots:=#[] }:=hl;have hb':hp.get? b=some { cls:=.type "list",dict:=none,data:=.seq ws.toArray n2,slots:=#[] }:=hb;have q1:i < vs.length:=by exact om126 lx ly hi1 hi2 hk
  have q2:i < ws.length:=by exact om127 lx ly hi2 hk q1
  obtain ⟨t,ht⟩:=hx.at (List.getElem?_eq_getElem (show i < xs.length by exact om128 lx q1));obtain ⟨u,hu⟩:=hy.at (List.getElem?_eq_getElem (show i < ys.length by exact Nat.lt_of_lt_of_eq ‹_› ‹_›));refine z2 ?_
  wp_walk using wpAny_loadPart' hl',wpAny_loadPart' hb'
  have e1:vs.toArray[((i:Nat):Int).toNat]?=some (.str xs[i] t):=by simpa using ht
  have e2:ws.toArray[((i:Nat):Int).toNat]?=some (.str ys[i] u):=by simpa using hu
  have hc:((i:Int) + 1)=((i + 1:Nat):Int):=by push_cast;rfl
  rw [List.drop_eq_getElem_cons (show i < xs.length by exact om128 lx q1),List.drop_eq_getElem_cons (show i < ys.length by exact Nat.lt_of_lt_of_eq ‹_› ‹_›),cmpL_c] at h;rw [e1,e2];refine wpAny_bind (wpAny_eqBool_str ?_)
  by_cases q:xs[i]=ys[i]
  ·rw [if_pos q] at h;rw [decide_eq_true q]
   wp_walk
   rw [hc]
   exact ⟨plainId_quiet plain_eq_loop _,codeAny_builtin entry_eq_loop (by
    rw [Around.under_plainId plain_eq_loop _];exact ih (i + 1) (by exact Nat.succ_le_of_lt ‹_›) (by exact Nat.succ_le_of_lt ‹_›) (by exact om129 lx ly hk q1 q2) prog w A R _ ⟨hl,hb,h⟩)⟩
  ·rw [if_neg q] at h;rw [decide_eq_false q]
   wp_walk using wpAny_loadPart' hl',wpAny_loadPart' hb'
   rw [e1,e2];refine wpAny_bind (richCompare_gives (op:=.Lt) (T:="str") rfl rfl F.slot_str_lt F.entry_str_lt (F.args_str_lt_2 _ _) (gives_str_lt _ _ t u) (λx=>nomatch x) ?_);exact wpAny_pure h
theorem ltl_meets (l b:Addr) (vs ws:List Value) (xs ys:List Str) (n n2:Nat) (hx:StrsAre vs xs) (hy:StrsAre ws ys) :
  Meets (Builtin.«list.__lt__» ⟨[.ref l,.ref b],[]⟩) (λA R s=>s.heap.get? l=some (listOf vs.toArray n)∧s.heap.get? b=some (listOf ws.toArray n2)∧R (.ok (.ret (.bool (cmpL false xs ys)))) s):=by
 intro prog w A R s h;refine gq λ_ z3=>?_;obtain ⟨hp,g,d,tk,os⟩:=s;obtain ⟨hl,hb,h⟩:=h;refine z3 ?_;have f3:=AutoSeq1.sub_list_list;have hl':hp.get? l=some { cls:=.type "list",dict:=none,data:=.seq vs.toArray n,slots:=#[] }:=hl;have hb':hp.get? b=some { cls:=.type "list",dict:=none,data:=.seq ws.toArray n2,slots:=#[] }:=hb
 wp_walk using wpAny_loadPart' hl',wpAny_loadPart' hb'
 exact ⟨plainId_quiet plain_eq_loop _,codeAny_builtin entry_eq_loop (by
  rw [Around.under_plainId plain_eq_loop _];exact ltl_loop l b vs ws xs ys n n2 hx hy _ 0 (Nat.zero_le _) (Nat.zero_le _) rfl prog w A R _ ⟨hl,hb,by simpa using h⟩)⟩
theorem rc_ltl {w:World} {A:Around} {s:Shared} {E:Value->Shared->Prop} {l b:Addr} {vs ws:List Value} {xs ys:List Str} {Q:Value->Shared->Prop} (hl:s.heap.IsList l vs.toArray) (hb:s.heap.IsList b ws.toArray) (hx:StrsAre vs xs) (hy:StrsAre ws ys) (hu:A.units < cLine)
  (hlo:∃ n,s.heap.get? l=some (listOf vs.toArray n)) (hbo:∃ n,s.heap.get? b=some (listOf ws.toArray n)) (h:Q (.bool (cmpL false xs ys)) s):wpAny (model PG w) A (richCompare .Lt (.ref l) (.ref b)) Q E s:=by
 refine gq λ_ z4=>?_;obtain ⟨n,ho⟩:=hlo;obtain ⟨n2,ho2⟩:=hbo;refine z4 ?_
 exact richCompare_meets_room (op:=.Lt) ⟨_,ho,rfl⟩ ⟨_,ho2,rfl⟩ F.slot_list_lt F.entry_list_lt (F.args_list_lt_2 _ _) (ltl_meets l b vs ws xs ys n n2 hx hy)
  ⟨ho,ho2,show Value.bool (cmpL false xs ys)≠Value.notImplemented∧Q (.bool (cmpL false xs ys)) s from ⟨(λx=>nomatch x),h⟩⟩ hu
theorem gtl_loop (l b:Addr) (vs ws:List Value) (xs ys:List Str) (n n2:Nat) (hx:StrsAre vs xs) (hy:StrsAre ws ys) (k:Nat) :
  ∀ i:Nat,i≤vs.length->i≤ws.length->min vs.length ws.length - i=k->Meets (Builtin.«list.__eq__.loop» ⟨[.ref l,.ref b,rawInt i,rawInt 4],[]⟩)
   (λA R s=>s.heap.get? l=some (listOf vs.toArray n)∧s.heap.get? b=some (listOf ws.toArray n2)∧R (.ok (.ret (.bool (cmpL true (xs.drop i) (ys.drop i))))) s):=by
 have lx:=hx.len_eq;have ly:=hy.len_eq
 induction k with
 |zero=>
  intro i hi1 hi2 hk prog w A R s h;refine gq λ_ z5=>?_;obtain ⟨hp,g,d,tk,os⟩:=s;obtain ⟨hl,hb,h⟩:=h;refine z5 ?_;have hl':hp.get? l=some { cls:=.type "list",dict:=none,data:=.seq vs.toArray n,slots:=#[] }:=hl;have hb':hp.get? b=some { cls:=.type "list",dict:=none,data:=.seq ws.toArray n2,slots:=#[] }:=hb
  wp_walk using wpAny_loadPart' hl',wpAny_loadPart' hb'
  rcases Nat.lt_or_ge i vs.length with q1|q1
  ·have q2:ws.length≤i:=by exact om120 lx ly hk q1
   have e1:vs.toArray[((i:Nat):Int).toNat]?=some vs[i]:=by simp [q1]
   have e2:ws.toArray[((i:Nat):Int).toNat]?=none:=by simp;assumption
   rw [e1,e2]
   wp_walk using wpAny_loadPart' hl',wpAny_loadPart' hb'
   show R (.ok (.ret (.bool (decide (vs.toArray.size > ws.toArray.size))))) _;rw [List.drop_eq_nil_iff.mpr (show ys.length≤i by exact om121 ly hi2 q2),List.drop_eq_getElem_cons (show i < xs.length by exact Nat.lt_of_lt_of_eq ‹_› ‹_›)] at h;have e3:decide (vs.toArray.size > ws.toArray.size)=true:=by simp;exact om130 lx ly hi2 q1 q2
   rw [e3];exact h
  ·have e1:vs.toArray[((i:Nat):Int).toNat]?=none:=by simp;assumption
   rw [e1]
   wp_walk using wpAny_loadPart' hl',wpAny_loadPart' hb'
   show R (.ok (.ret (.bool (decide (vs.toArray.size > ws.toArray.size))))) _;rw [List.drop_eq_nil_iff.mpr (show xs.length≤i by exact om123 lx hi1 q1)] at h;rcases Nat.lt_or_ge i ws.length with q2|q2
   ·rw [List.drop_eq_getElem_cons (show i < ys.length by exact Nat.lt_of_lt_of_eq ‹_› ‹_›)] at h;have e3:decide (vs.toArray.size > ws.toArray.size)=!true:=by simp;exact om131 lx ly hi1 q1 q2
    rw [e3];exact h
   ·rw [List.drop_eq_nil_iff.mpr (show ys.length≤i by exact om123 ly hi2 q2)] at h;have e3:decide (vs.toArray.size > ws.toArray.size)=false:=by simp;exact om132 lx ly hi1 hi2 q1 q2
    rw [e3];exact h
 |succ k ih=>
  intro i hi1 hi2 hk prog w A R s h;refine gq λ_ z6=>?_;obtain ⟨hp,g,d,tk,os⟩:=s;obtain ⟨hl,hb,h⟩:=h;have hl':hp.get? l=some { cls:=.type "list",dict:=none,data:=.seq vs.toArray n,slots:=#[] }:=hl;have hb':hp.get? b=some { cls:=.type "list",dict:=none,data:=.seq ws.toArray n2,slots:=#[] }:=hb;have q1:i < vs.length:=by exact om126 lx ly hi1 hi2 hk
  have q2:i < ws.length:=by exact om127 lx ly hi2 hk q1
  obtain ⟨t,ht⟩:=hx.at (List.getElem?_eq_getElem (show i < xs.length by exact om128 lx q1));obtain ⟨u,hu⟩:=hy.at (List.getElem?_eq_getElem (show i < ys.length by exact Nat.lt_of_lt_of_eq ‹_› ‹_›));refine z6 ?_
  wp_walk using wpAny_loadPart' hl',wpAny_loadPart' hb'
  have e1:vs.toArray[((i:Nat):Int).toNat]?=some (.str xs[i] t):=by simpa using ht
  have e2:ws.toArray[((i:Nat):Int).toNat]?=some (.str ys[i] u):=by simpa using hu
  have hc:((i:Int) + 1)=((i + 1:Nat):Int):=by push_cast;rfl
  rw [List.drop_eq_getElem_cons (show i < xs.length by exact om128 lx q1),List.drop_eq_getElem_cons (show i < ys.length by exact Nat.lt_of_lt_of_eq ‹_› ‹_›),cmpL_c] at h;rw [e1,e2];refine wpAny_bind (wpAny_eqBool_str ?_)
  by_cases q:xs[i]=ys[i]
  ·rw [if_pos q] at h;rw [decide_eq_true q]
   wp_walk
   rw [hc]
   exact ⟨plainId_quiet plain_eq_loop _,codeAny_builtin entry_eq_loop (by
    rw [Around.under_plainId plain_eq_loop _];exact ih (i + 1) (by exact Nat.succ_le_of_lt ‹_›) (by exact Nat.succ_le_of_lt ‹_›) (by exact om129 lx ly hk q1 q2) prog w A R _ ⟨hl,hb,h⟩)⟩
  ·rw [if_neg q] at h;rw [decide_eq_false q]
   wp_walk using wpAny_loadPart' hl',wpAny_loadPart' hb'
   rw [e1,e2];refine wpAny_bind (richCompare_gives (op:=.Gt) (T:="str") rfl rfl F.slot_str_gt F.entry_str_gt (F.args_str_gt_2 _ _) (gives_str_gt _ _ t u) (λx=>nomatch x) ?_);exact wpAny_pure h
theorem gtl_meets (l b:Addr) (vs ws:List Value) (xs ys:List Str) (n n2:Nat) (hx:StrsAre vs xs) (hy:StrsAre ws ys) :
  Meets (Builtin.«list.__gt__» ⟨[.ref l,.ref b],[]⟩) (λA R s=>s.heap.get? l=some (listOf vs.toArray n)∧s.heap.get? b=some (listOf ws.toArray n2)∧R (.ok (.ret (.bool (cmpL true xs ys)))) s):=by
 intro prog w A R s h;refine gq λ_ z7=>?_;obtain ⟨hp,g,d,tk,os⟩:=s;obtain ⟨hl,hb,h⟩:=h;refine z7 ?_;have f3:=AutoSeq1.sub_list_list;have hl':hp.get? l=some { cls:=.type "list",dict:=none,data:=.seq vs.toArray n,slots:=#[] }:=hl;have hb':hp.get? b=some { cls:=.type "list",dict:=none,data:=.seq ws.toArray n2,slots:=#[] }:=hb
 wp_walk using wpAny_loadPart' hl',wpAny_loadPart' hb'
 exact ⟨plainId_quiet plain_eq_loop _,codeAny_builtin entry_eq_loop (by
  rw [Around.under_plainId plain_eq_loop _];exact gtl_loop l b vs ws xs ys n n2 hx hy _ 0 (Nat.zero_le _) (Nat.zero_le _) rfl prog w A R _ ⟨hl,hb,by simpa using h⟩)⟩
theorem rc_gtl {w:World} {A:Around} {s:Shared} {E:Value->Shared->Prop} {l b:Addr} {vs ws:List Value} {xs ys:List Str} {Q:Value->Shared->Prop} (hl:s.heap.IsList l vs.toArray) (hb:s.heap.IsList b ws.toArray) (hx:StrsAre vs xs) (hy:StrsAre ws ys) (hu:A.units < cLine)
  (hlo:∃ n,s.heap.get? l=some (listOf vs.toArray n)) (hbo:∃ n,s.heap.get? b=some (listOf ws.toArray n)) (h:Q (.bool (cmpL true xs ys)) s):wpAny (model PG w) A (richCompare .Gt (.ref l) (.ref b)) Q E s:=by
 refine gq λ_ z8=>?_;obtain ⟨n,ho⟩:=hlo;obtain ⟨n2,ho2⟩:=hbo;refine z8 ?_
 exact richCompare_meets_room (op:=.Gt) ⟨_,ho,rfl⟩ ⟨_,ho2,rfl⟩ F.slot_list_gt F.entry_list_gt (F.args_list_gt_2 _ _) (gtl_meets l b vs ws xs ys n n2 hx hy)
  ⟨ho,ho2,show Value.bool (cmpL true xs ys)≠Value.notImplemented∧Q (.bool (cmpL true xs ys)) s from ⟨(λx=>nomatch x),h⟩⟩ hu
section
variable {w:World} {B:Bs w} {A:Around} {L a l:Addr} {m m':Str->Option Value} {g:PH} {s:Shared} {env:Env} {E:Value->Shared->Prop} {pl:Sem Bool} {i1 Sd:Addr} {vs:List Value} {ss:List Str} {ol oi os:Obj} {i:Nat}
theorem SL.isL {ss:List Str} (h:SL g a ss) (K:Kp B g s):Ex2 λvs n=>s.heap.get? a=some (listOf vs.toArray n)∧StrsAre vs ss:=by
 obtain ⟨o,vs,h1,⟨n,rfl⟩,h3⟩:=h;exact ⟨vs,n,K.sub _ _ h1,h3⟩
theorem next_li {v:Value} {Q:Option Value->Shared->Prop} (S:St B L m g s) (hi:g i1=some oi) (hit:LIt l i oi) (hl:g l=some ol) (x:OL vs ol) (hx:vs[i]?=some v)
  (h:∀ s' o',LIt l (i + 1) o'->St B L m (put g i1 o') s'->Q (some v) s'):wpAny (model PG w) A (pyNext (.ref i1)) Q E s:=by
 have hIt:s.heap.IsListIter i1 l i:=⟨_,S.sub hi,hit.1,hit.2⟩;refine wpAny_pyNext_list_item hIt (x.isList (S.sub hl)) (by simpa using hx) λh₂ h1₂ hs₂=>?_;obtain ⟨o',ho',hc',hd'⟩:=h1₂;exact h _ o' ⟨hc',hd'⟩ (S.setI hi (lit_code hit) (λb o hb e=>hs₂.extBut b o hb e) ho' s.toks)
theorem end_li {Q:Option Value->Shared->Prop} (S:St B L m g s) (hh:A.handled=none) (hi:g i1=some oi) (hit:LIt l i oi) (hl:g l=some ol) (x:OL vs ol) (hx:vs[i]?=none)
  (h:∀ s',St B L m (dropA g i1) s'->Q none s'):wpAny (model PG w) A (pyNext (.ref i1)) Q E s:=by
 have hIt:s.heap.IsListIter i1 l i:=⟨_,S.sub hi,hit.1,hit.2⟩;refine wpAny_pyNext_list_end hh hIt (x.isList (S.sub hl)) (by simpa using hx) λh₂ hs₂=>?_;exact h _ (S.dropI hi (lit_code hit) (λb o hb e=>hs₂ _ _ hb e) s.toks)
theorem set_best {ws:List Value} {us:List Value} {Q:Unit->Shared->Prop} (S:St B L m g s) (hs:g Sd=some os) (x:OL us os) (hz:us.length≤1000) (hw:ws.length≤1000) (h:∀ s' o',OL ws o'->St B L m (put g Sd o') s'->Q () s') :
  wpAny (model PG w) A (updateSeq Sd λ_=>ws.toArray) Q E s:=by
 have sz:=sizeLine_eq;have xc:=x.code;obtain ⟨n,rfl⟩:=x;refine wpAny_updateSeq (S.sub hs) rfl (h _ (Obj.mapSeq (λ_=>ws.toArray) (listOf us.toArray n)) ⟨_,rfl⟩ ?_) (by rw [List.size_toArray];exact n_t ‹_› (by decide)) (by rw [List.size_toArray];exact n_t ‹_› (by decide));exact S.set hs xc (Heap.SameBut.update s.heap Sd (Obj.mapSeq λ_=>ws.toArray)) (Heap.get?_update_self _ (S.sub hs) rfl) s.toks
theorem o_mins2 {a b:Addr} {xs ys:List Str} {Q:Value->Shared->Prop} (S:St B L m g s) (hr:Rm A 3) (hh:A.handled=none) (hl:g l=some ol) (x:OL [.ref a,.ref b] ol) (ha:SL g a xs) (hb:SL g b ys)
  (h:∀ s' g',Sub g g'->St B L m g' s'->Q (.ref (if cmpL false ys xs=true then b else a)) s'):wpAny (model PG w) A (call (.builtin "min") [.ref l]) Q E s:=by
 have sz:=sizeLine_eq;have hname:(toString "min" ++ toString ".loop":String)="min.loop":=by decide
 refine call_function_tree F.kind_min F.plain_min F.entry_min (F.args_min1 _) ?_;show wpAny _ A.in1 (Builtin.Builtins.bindParams "min" ["key","default"] 0 ⟨[],[]⟩ >>= _) _ _ s;refine wpAny_bind (wpAny_of_eq (show Builtin.Builtins.bindParams "min" ["key","default"] 0 ⟨[],[]⟩=pure [none,none] from rfl) ?_);refine wpAny_bind (wpAny_pure ?_);refine wpAny_bind (wpAny_pyIter_list (x.isList (S.sub hl)) ?_);have S1:=S.alloc { cls:=.type "list_iterator",data:=.fields #[.ref l,.int 0 0] } s.toks;obtain ⟨i1,hi1⟩:∃ i1,i1=s.heap.objs.size:=⟨_,rfl⟩;rw [<-hi1] at S1 ⊢;have ni:g i1=none:=by rw [hi1];exact S.kp.fresh (Nat.le_refl _)
 clear hi1;refine wpAny_bind (n_list S1 λs Sd os ols nS _ _ S2=>?_);rw [hname];refine gq λ_ z2=>?_;obtain ⟨oi,hoi,hit⟩:∃ oi,put g i1 { cls:=.type "list_iterator",data:=.fields #[.ref l,.int 0 0] } i1=some oi∧LIt l 0 oi:=⟨_,put_self ..,rfl,rfl⟩;have nSi:i1≠Sd:=ne_none hoi nS;have gi:∀ {c o},g c=some o->c≠i1:=λe=>ne_none e ni;have gS:∀ {c o},g c=some o->c≠Sd:=λe=>ne_none (Sub.put (o:={ cls:=.type "list_iterator",data:=.fields #[.ref l,.int 0 0] }) ni _ _ e) nS;obtain ⟨G,hG⟩:∃ G,G=put (put g i1 { cls:=.type "list_iterator",data:=.fields #[.ref l,.int 0 0] }) Sd os:=⟨_,rfl⟩;refine z2 ?_;have sub:Sub g G:=λc o e=>by rw [hG,put_ne (gS e),put_ne (gi e)];exact e
 rw [<-hG] at S2;have hi:G i1=some oi:=by rw [hG,put_ne nSi];exact hoi
 have hs:G Sd=some os:=by rw [hG];exact put_self ..
 clear hG hoi S1;refine wpAny_pure ⟨plainId_quiet F.plain_min_loop _,codeAny_builtin F.entry_min_loop ?_⟩;rw [Around.under_plainId F.plain_min_loop _];show wpAny _ A.in1 (seqItems? (.ref Sd) >>= _) _ _ s;obtain ⟨n0,hn0⟩:=id ols;refine wpAny_bind (wpAny_seqItems (S2.sub hs) (by rw [hn0]) ?_);show wpAny _ A.in1 (tryCatch (pyNext (.ref i1)) _ >>= _) _ _ s;refine wpAny_bind (wpAny_tryCatch (next_li S2 hi hit (sub _ _ hl) x (v:=.ref a) rfl λs o1 it1 S3=>?_));show wpAny _ A.in1 (updateSeq Sd (λ_=>#[.ref a,.ref a]) >>= _) _ _ _;refine wpAny_bind (set_best (ws:=[.ref a,.ref a]) S3 ((put_ne nSi.symm).trans hs) ols (by simp) (by simp) λs os1 ols1 S4=>?_);rw [hname];refine wpAny_pure ⟨plainId_quiet F.plain_min_loop _,codeAny_builtin F.entry_min_loop ?_⟩;rw [Around.under_plainId F.plain_min_loop _];have sub4:Sub g (put (put G i1 o1) Sd os1):=λc o e=>by rw [put_ne (gS e),put_ne (gi e)];exact sub _ _ e
 show wpAny _ A.in1 (seqItems? (.ref Sd) >>= _) _ _ s;obtain ⟨n1,hn1⟩:=id ols1;refine wpAny_bind (wpAny_seqItems (S4.sub (put_self ..)) (by rw [hn1]) ?_);show wpAny _ A.in1 (tryCatch (pyNext (.ref i1)) _ >>= _) _ _ s;refine wpAny_bind (wpAny_tryCatch (next_li S4 ((put_ne nSi).trans (put_self ..)) it1 (sub4 _ _ hl) x (v:=.ref b) rfl λs o2 it2 S5=>?_));have sub5:Sub g (put (put (put G i1 o1) Sd os1) i1 o2):=λc o e=>by rw [put_ne (gi e)];exact sub4 _ _ e
 have hs5:put (put (put G i1 o1) Sd os1) i1 o2 Sd=some os1:=(put_ne nSi.symm).trans (put_self ..);show wpAny _ A.in1 (tryCatch (holding [.ref b,.ref b] (richCompare .Lt (.ref b) (.ref a) >>= _)) _ >>= _) _ _ _;refine gq λ_ z3=>?_;obtain ⟨va,na,va1,va2⟩:=(ha.sub sub5).isL S5.kp;obtain ⟨vb,nb,vb1,vb2⟩:=(hb.sub sub5).isL S5.kp;refine z3 ?_;refine wpAny_bind (wpAny_tryCatch (wpAny_holding (wpAny_bind (rc_ltl (A:=A.in1) ⟨_,vb1,rfl,_,rfl⟩ ⟨_,va1,rfl,_,rfl⟩ vb2 va2 (by have:=hr.u;show A.units + 1 < 9900;exact om133 this) ⟨_,vb1⟩ ⟨_,va1⟩ ?_))));refine wpAny_bind (wpAny_holding (wpAny_truthy_bool ?_));refine wpAny_bind (wpAny_letGo (wpAny_pure ?_))
 have fin:∀ (c:Addr) (os2:Obj) (G2:PH) (s:Shared),OL [.ref c,.ref c] os2->St B L m G2 s->G2 Sd=some os2->G2 i1=some o2->Sub g G2->(∀ s' g',Sub g g'->St B L m g' s'->Q (.ref c) s') ->
   codeAny (model PG w) A (.builtin "min.loop" ⟨[.ref i1,.none,.ref Sd],[]⟩) (λr s'=>match r with|.ok (.ret v)=>Q v s'|.ok _=>False|.error e=>E e s') s:=by
  intro c os2 G2 s ols2 S h1 h2 h3 hq;refine codeAny_builtin F.entry_min_loop ?_;rw [Around.under_plainId F.plain_min_loop _];show wpAny _ A.in1 (seqItems? (.ref Sd) >>= _) _ _ s;obtain ⟨n2,hn2⟩:=id ols2;refine wpAny_bind (wpAny_seqItems (S.sub h1) (by rw [hn2]) ?_);show wpAny _ A.in1 (tryCatch (pyNext (.ref i1)) _ >>= _) _ _ s;refine wpAny_bind (wpAny_tryCatch (end_li S (A:=A.in1) hh h2 it2 (h3 _ _ hl) x rfl λs S=>?_));show wpAny _ A.in1 (updateSeq Sd (λ_=>#[]) >>= _) _ _ _;refine wpAny_bind (set_best (ws:=[]) S (dropA_of h1 nSi.symm) ols2 (by simp) (by simp) λs os3 _ S=>?_);refine wpAny_bind (wpAny_letGo (wpAny_pure ?_));refine hq _ _ (λd o e=>?_) S;rw [put_ne (gS e)];exact dropA_of (h3 _ _ e) (gi e)
 cases hc:cmpL false ys xs with
 |true=>
  simp -iota only [if_true];show wpAny _ A.in1 (updateSeq Sd (λ_=>#[.ref b,.ref b]) >>= _) _ _ _;refine wpAny_bind (set_best (ws:=[.ref b,.ref b]) S5 hs5 ols1 (by simp) (by simp) λs os2 ols2 S6=>?_);refine wpAny_bind (wpAny_letGo ?_);rw [hname];refine wpAny_pure ⟨plainId_quiet F.plain_min_loop _,?_⟩;refine fin b os2 _ _ ols2 S6 (put_self ..) ((put_ne nSi).trans (put_self ..)) (λc o e=>by rw [put_ne (gS e)];exact sub5 _ _ e) λs' g' hs S=>?_;have:=h s' g' hs S;rw [hc,if_pos rfl] at this;exact this
 |false=>
  simp -iota only [Bool.false_eq_true,if_false];refine wpAny_bind (wpAny_letGo ?_);rw [hname];refine wpAny_pure ⟨plainId_quiet F.plain_min_loop _,?_⟩;refine fin a os1 _ _ ols1 S5 hs5 (put_self ..) sub5 λs' g' hs S=>?_;have:=h s' g' hs S;rw [hc,if_neg (by decide)] at this;exact this
theorem o_maxs2 {a b:Addr} {xs ys:List Str} {Q:Value->Shared->Prop} (S:St B L m g s) (hr:Rm A 3) (hh:A.handled=none) (hl:g l=some ol) (x:OL [.ref a,.ref b] ol) (ha:SL g a xs) (hb:SL g b ys)
  (h:∀ s' g',Sub g g'->St B L m g' s'->Q (.ref (if cmpL true ys xs=true then b else a)) s'):wpAny (model PG w) A (call (.builtin "max") [.ref l]) Q E s:=by
 have sz:=sizeLine_eq;have hname:(toString "max" ++ toString ".loop":String)="max.loop":=by decide
 refine call_function_tree F.kind_max F.plain_max F.entry_max (F.args_max1 _) ?_;show wpAny _ A.in1 (Builtin.Builtins.bindParams "max" ["key","default"] 0 ⟨[],[]⟩ >>= _) _ _ s;refine wpAny_bind (wpAny_of_eq (show Builtin.Builtins.bindParams "max" ["key","default"] 0 ⟨[],[]⟩=pure [none,none] from rfl) ?_);refine wpAny_bind (wpAny_pure ?_);refine wpAny_bind (wpAny_pyIter_list (x.isList (S.sub hl)) ?_);have S1:=S.alloc { cls:=.type "list_iterator",data:=.fields #[.ref l,.int 0 0] } s.toks;obtain ⟨i1,hi1⟩:∃ i1,i1=s.heap.objs.size:=⟨_,rfl⟩;rw [<-hi1] at S1 ⊢;have ni:g i1=none:=by rw [hi1];exact S.kp.fresh (Nat.le_refl _)
 clear hi1;refine wpAny_bind (n_list S1 λs Sd os ols nS _ _ S2=>?_);rw [hname];refine gq λ_ z4=>?_;obtain ⟨oi,hoi,hit⟩:∃ oi,put g i1 { cls:=.type "list_iterator",data:=.fields #[.ref l,.int 0 0] } i1=some oi∧LIt l 0 oi:=⟨_,put_self ..,rfl,rfl⟩;have nSi:i1≠Sd:=ne_none hoi nS;have gi:∀ {c o},g c=some o->c≠i1:=λe=>ne_none e ni;have gS:∀ {c o},g c=some o->c≠Sd:=λe=>ne_none (Sub.put (o:={ cls:=.type "list_iterator",data:=.fields #[.ref l,.int 0 0] }) ni _ _ e) nS;obtain ⟨G,hG⟩:∃ G,G=put (put g i1 { cls:=.type "list_iterator",data:=.fields #[.ref l,.int 0 0] }) Sd os:=⟨_,rfl⟩;refine z4 ?_;have sub:Sub g G:=λc o e=>by rw [hG,put_ne (gS e),put_ne (gi e)];exact e
 rw [<-hG] at S2;have hi:G i1=some oi:=by rw [hG,put_ne nSi];exact hoi
 have hs:G Sd=some os:=by rw [hG];exact put_self ..
 clear hG hoi S1;refine wpAny_pure ⟨plainId_quiet F.plain_max_loop _,codeAny_builtin F.entry_max_loop ?_⟩;rw [Around.under_plainId F.plain_max_loop _];show wpAny _ A.in1 (seqItems? (.ref Sd) >>= _) _ _ s;obtain ⟨n0,hn0⟩:=id ols;refine wpAny_bind (wpAny_seqItems (S2.sub hs) (by rw [hn0]) ?_);show wpAny _ A.in1 (tryCatch (pyNext (.ref i1)) _ >>= _) _ _ s;refine wpAny_bind (wpAny_tryCatch (next_li S2 hi hit (sub _ _ hl) x (v:=.ref a) rfl λs o1 it1 S3=>?_));show wpAny _ A.in1 (updateSeq Sd (λ_=>#[.ref a,.ref a]) >>= _) _ _ _;refine wpAny_bind (set_best (ws:=[.ref a,.ref a]) S3 ((put_ne nSi.symm).trans hs) ols (by simp) (by simp) λs os1 ols1 S4=>?_);rw [hname];refine wpAny_pure ⟨plainId_quiet F.plain_max_loop _,codeAny_builtin F.entry_max_loop ?_⟩;rw [Around.under_plainId F.plain_max_loop _];have sub4:Sub g (put (put G i1 o1) Sd os1):=λc o e=>by rw [put_ne (gS e),put_ne (gi e)];exact sub _ _ e
 show wpAny _ A.in1 (seqItems? (.ref Sd) >>= _) _ _ s;obtain ⟨n1,hn1⟩:=id ols1;refine wpAny_bind (wpAny_seqItems (S4.sub (put_self ..)) (by rw [hn1]) ?_);show wpAny _ A.in1 (tryCatch (pyNext (.ref i1)) _ >>= _) _ _ s;refine wpAny_bind (wpAny_tryCatch (next_li S4 ((put_ne nSi).trans (put_self ..)) it1 (sub4 _ _ hl) x (v:=.ref b) rfl λs o2 it2 S5=>?_));have sub5:Sub g (put (put (put G i1 o1) Sd os1) i1 o2):=λc o e=>by rw [put_ne (gi e)];exact sub4 _ _ e
 have hs5:put (put (put G i1 o1) Sd os1) i1 o2 Sd=some os1:=(put_ne nSi.symm).trans (put_self ..);show wpAny _ A.in1 (tryCatch (holding [.ref b,.ref b] (richCompare .Gt (.ref b) (.ref a) >>= _)) _ >>= _) _ _ _;refine gq λ_ z5=>?_;obtain ⟨va,na,va1,va2⟩:=(ha.sub sub5).isL S5.kp;obtain ⟨vb,nb,vb1,vb2⟩:=(hb.sub sub5).isL S5.kp;refine z5 ?_;refine wpAny_bind (wpAny_tryCatch (wpAny_holding (wpAny_bind (rc_gtl (A:=A.in1) ⟨_,vb1,rfl,_,rfl⟩ ⟨_,va1,rfl,_,rfl⟩ vb2 va2 (by have:=hr.u;show A.units + 1 < 9900;exact om133 this) ⟨_,vb1⟩ ⟨_,va1⟩ ?_))));refine wpAny_bind (wpAny_holding (wpAny_truthy_bool ?_));refine wpAny_bind (wpAny_letGo (wpAny_pure ?_))
 have fin:∀ (c:Addr) (os2:Obj) (G2:PH) (s:Shared),OL [.ref c,.ref c] os2->St B L m G2 s->G2 Sd=some os2->G2 i1=some o2->Sub g G2->(∀ s' g',Sub g g'->St B L m g' s'->Q (.ref c) s') ->
   codeAny (model PG w) A (.builtin "max.loop" ⟨[.ref i1,.none,.ref Sd],[]⟩) (λr s'=>match r with|.ok (.ret v)=>Q v s'|.ok _=>False|.error e=>E e s') s:=by
  intro c os2 G2 s ols2 S h1 h2 h3 hq;refine codeAny_builtin F.entry_max_loop ?_;rw [Around.under_plainId F.plain_max_loop _];show wpAny _ A.in1 (seqItems? (.ref Sd) >>= _) _ _ s;obtain ⟨n2,hn2⟩:=id ols2;refine wpAny_bind (wpAny_seqItems (S.sub h1) (by rw [hn2]) ?_);show wpAny _ A.in1 (tryCatch (pyNext (.ref i1)) _ >>= _) _ _ s;refine wpAny_bind (wpAny_tryCatch (end_li S (A:=A.in1) hh h2 it2 (h3 _ _ hl) x rfl λs S=>?_));show wpAny _ A.in1 (updateSeq Sd (λ_=>#[]) >>= _) _ _ _;refine wpAny_bind (set_best (ws:=[]) S (dropA_of h1 nSi.symm) ols2 (by simp) (by simp) λs os3 _ S=>?_);refine wpAny_bind (wpAny_letGo (wpAny_pure ?_));refine hq _ _ (λd o e=>?_) S;rw [put_ne (gS e)];exact dropA_of (h3 _ _ e) (gi e)
 cases hc:cmpL true ys xs with
 |true=>
  simp -iota only [if_true];show wpAny _ A.in1 (updateSeq Sd (λ_=>#[.ref b,.ref b]) >>= _) _ _ _;refine wpAny_bind (set_best (ws:=[.ref b,.ref b]) S5 hs5 ols1 (by simp) (by simp) λs os2 ols2 S6=>?_);refine wpAny_bind (wpAny_letGo ?_);rw [hname];refine wpAny_pure ⟨plainId_quiet F.plain_max_loop _,?_⟩;refine fin b os2 _ _ ols2 S6 (put_self ..) ((put_ne nSi).trans (put_self ..)) (λc o e=>by rw [put_ne (gS e)];exact sub5 _ _ e) λs' g' hs S=>?_;have:=h s' g' hs S;rw [hc,if_pos rfl] at this;exact this
 |false=>
  simp -iota only [Bool.false_eq_true,if_false];refine wpAny_bind (wpAny_letGo ?_);rw [hname];refine wpAny_pure ⟨plainId_quiet F.plain_max_loop _,?_⟩;refine fin a os1 _ _ ols1 S5 hs5 (put_self ..) sub5 λs' g' hs S=>?_;have:=h s' g' hs S;rw [hc,if_neg (by decide)] at this;exact this
end
noncomputable def slash:Str:=Str.ofString "/"
noncomputable def compsP (p:Str):List Str:=(Txt.split p slash).filter λc=>decide (c≠Str.ofString "") && decide (c≠Str.ofString ".")
noncomputable def minP (a b:List Str):List Str:=if cmpL false b a=true then b else a
noncomputable def maxP (a b:List Str):List Str:=if cmpL true b a=true then b else a
noncomputable def lcpP:List Str->List Str->List Str
 |x :: a,y :: b=>if x=y then x :: lcpP a b else []
 |_,_=>[]
theorem lcpP_c {x y:Str} {a b:List Str}:lcpP (x :: a) (y :: b)=if x=y then x :: lcpP a b else []:=rfl
noncomputable def cpP (p q:Str):Str:=slash ++ Txt.join slash (lcpP (minP (compsP p) (compsP q)) (maxP (compsP p) (compsP q)))
theorem lcp_take:∀ {i:Nat} {a b:List Str} {x y:Str},a.take i=b.take i->a[i]?=some x->b[i]?=some y->x≠y->lcpP a b=a.take i
 |0,x :: a,y :: b,x',y',_,h1,h2,hn=>by
  cases h1;cases h2;exact if_neg hn
 |i + 1,x :: a,y :: b,x',y',h,h1,h2,hn=>by
  rw [List.take_succ_cons,List.take_succ_cons] at h
  injection h with e h
  show (if x=y then x :: lcpP a b else [])=_;rw [if_pos e,List.take_succ_cons,lcp_take h h1 h2 hn]
 |_,[],_,_,_,_,h1,_,_=>by simp at h1
 |_,_ :: _,[],_,_,_,_,h2,_=>by simp at h2
theorem lcp_all:∀ {a b:List Str},a=b.take a.length->lcpP a b=a
 |[],_,_=>rfl
 |x :: a,[],h=>by simp at h
 |x :: a,y :: b,h=>by
  rw [List.length_cons,List.take_succ_cons] at h
  injection h with e h
  exact (if_pos e).trans (congrArg _ (lcp_all h))
theorem lcp_sub:∀ (a b:List Str),(lcpP a b).Sublist a
 |x :: a,y :: b=>by
  show (if x=y then x :: lcpP a b else []).Sublist _
  split
  ·exact (lcp_sub a b).cons_cons x
  ·exact List.nil_sublist _
 |[],_=>List.nil_sublist _
 |_ :: _,[]=>List.nil_sublist _
theorem sum_sub {a b:List Str} (h:a.Sublist b):(a.map (·.length)).sum + a.length≤(b.map (·.length)).sum + b.length:=by
 induction h with
 |slnil=>exact Nat.le_refl _
 |cons x h ih=>rw [List.map_cons,List.sum_cons,List.length_cons];exact om134 ih
 |cons_cons x h ih=>rw [List.map_cons,List.sum_cons,List.length_cons,List.map_cons,List.sum_cons,List.length_cons];exact om135 ih
theorem comps_sum (p:Str):((compsP p).map (·.length)).sum + (compsP p).length≤p.length + 1:=
 n_t (sum_sub List.filter_sublist) (split_weight p slash (by decide))
theorem minP_or (a b:List Str):minP a b=a∨minP a b=b:=by unfold minP;split;exact .inr rfl;exact .inl rfl
section
variable {w:World} {B:Bs w} {A:Around} {L a l:Addr} {m m':Str->Option Value} {g:PH} {s:Shared} {env:Env} {E:Value->Shared->Prop} {pl:Sem Bool} {vs:List Value} {ss:List Str} {ol:Obj} {i:Nat}
theorem o_split {x y:Str} {t u:Tok} {Q:Value->Shared->Prop} (S:St B L m g s) (hy:(y.length == 0)=false) (hx:x.length≤1000)
  (h:∀ s' D vs o',OL vs o'->StrsAre vs (Txt.split x y)->g D=none->St B L m (put g D o') s'->Q (.ref D) s'):wpAny (model PG w) A (call (.builtin "str.split") [.str x t,.str y u]) Q E s:=by
 have sz:=sizeLine_eq;refine splitN1A S.fr (S.news (xs:=[L]) (by simp)) hy (λl h' k e hs _ _ F' N'=>?_) (by exact om136 hx sz);have S':=S.ofNews F' N' (λp hp=>.tail _ hp) k;have hD:=(N' _ (.head _)).1;exact h _ _ _ _ ⟨0,rfl⟩ (e▸hs) (S.kp.fresh (Nat.le_refl _)) (S'.takeNew (S.toks k) (Nat.le_refl _) hD)
theorem o_join {x:Str} {t:Tok} {Q:Value->Shared->Prop} (S:St B L m g s) (hl:g l=some ol) (ox:OL vs ol) (hv:StrsAre vs ss) (hok:(ss.map (·.length)).sum + ss.length * x.length≤16777216)
  (h:∀ s' tk,St B L m g s'->Q (.str (Txt.join x ss) tk) s'):wpAny (model PG w) A (call (.builtin "str.join") [.str x t,.ref l]) Q E s:=
 join_list (ox.isList (S.sub hl)) (by simpa using hv) hok λt' k=>h _ _ (S.toks k)
theorem o_truthyT {Q:Bool->Shared->Prop} (S:St B L m g s) (hl:g l=some ol) (x:OT vs ol) (hz:vs.length≤1000) (h:∀ s',St B L m g s'->Q (!vs.isEmpty) s'):wpAny (model PG w) A (truthy (.ref l)) Q E s:=by
 have ht:IsTup s.heap l vs.toArray:=by obtain ⟨c,n,e⟩:=x;exact ⟨ol,S.sub hl,c,n,e⟩
 refine truthy_tuple ht (by rw [List.size_toArray];exact om39 hz) ?_;have:vs.toArray.isEmpty=vs.isEmpty:=by simp
 rw [this];exact h _ (S.toks _)
theorem t_tup {value sl:Expr} {k:Int} {t:Tok} {v:Value} {Q:Value->Shared->Prop} (S:St B L m g s) (hl:g l=some ol) (x:OT vs ol) (h0:0≤k) (h1:k < 2 ^ 63) (hx:vs[k.toNat]?=some v) (h:Q v s)
  (hs:subscripted sl false (.ref l) (.int k t)=operate [.ref l,.int k t] (getItem (.ref l) (.int k t)):=by with_unfolding_all rfl) :
  wpAny (model PG w) A (subscriptTail value sl (.ref l) (.int k t)) Q E s:=by
 have ht:IsTup s.heap l vs.toArray:=by obtain ⟨c,n,e⟩:=x;exact ⟨ol,S.sub hl,c,n,e⟩
 refine gq λ_ z1=>?_;obtain ⟨o,ho,hc,n,hd⟩:=id ht;refine z1 ?_;refine tail_any ⟨o,ho,hc⟩ F.slot_tuple_getitem.lookup (PyProof.Rows.getItem_tuple ht (by exact om137 h0 h1) (by assumption) (j:=k.toNat) ?_ (by simpa using hx) h) hs;have:=(List.getElem?_eq_some_iff.mp hx).1;unfold seqIndex?;rw [List.size_toArray];simp only [if_neg (show ¬ k < 0 by exact om138 h0 h1)];rw [if_pos (by simp only [Bool.and_eq_true,decide_eq_true_eq];exact om139 h0 h1 this)]
end
section
variable {w:World} {B:Bs w} {A:Around} {L a l:Addr} {m m':Str->Option Value} {g:PH} {s:Shared} {env:Env} {E:Value->Shared->Prop} {pl:Sem Bool} {vs:List Value} {ss:List Str} {ol:Obj} {i:Nat}
theorem strs_take {vs:List Value} {ss:List Str} (h:StrsAre vs ss):∀ j:Nat,StrsAre (vs.take j) (ss.take j):=by
 induction h with
 |nil=>intro j;simpa using StrsAre.nil
 |cons y t h' ih=>
  intro j;cases j with
  |zero=>exact .nil
  |succ j=>exact .cons _ _ (ih j)
theorem str_nil {z:Str}:z.length=0↔z=Str.ofString "":=by
 constructor
 ·intro h;obtain ⟨c⟩:=z;have:c=#[]:=Array.eq_empty_of_size_eq_zero h;rw [this];rfl
 ·rintro rfl;rfl
theorem two_of {α:Type} {l:List α} (h:l.length=2):∃ a b,l=[a,b]:=by
 match l,h with
 |[a,b],_=>exact ⟨a,b,rfl⟩
theorem at_two {α:Type} {a b v:α} {i:Nat} (h:[a,b][i]?=some v):(i=0∧v=a)∨(i=1∧v=b):=by
 match i,h with
 |0,h=>exact .inl ⟨rfl,(Option.some.inj h).symm⟩
 |1,h=>exact .inr ⟨rfl,(Option.some.inj h).symm⟩
theorem for_cut {target:Expr} {body orelse:List Stmt} {x:Value} {R:Result->Shared->Prop} (MID:Shared->Prop)
  (h:∀ R1:Result->Shared->Prop,(∀ r s,(match r with|.ok .next=>MID s|r=>R r s)->R1 r s)->wpAny (model PG w) A (pyIter x) (λit s₂=>codeAny (model PG w) A (.forLoop target it body orelse env) R1 s₂) E s) (k:∀ s,MID s->R (.ok .next) s) :
  wpAny (model PG w) A (pyIter x) (λit s₂=>codeAny (model PG w) A (.forLoop target it body orelse env) R s₂) E s:=
 wpAny_mono (h _ λ_ _ h=>h) (λit s₂ h₂=>codeAny_mono h₂ λr s hr=>by
  match r,hr with
  |.ok .next,hr=>exact k _ hr
  |.ok .brk,hr=>exact hr
  |.ok .cont,hr=>exact hr
  |.ok (.ret v),hr=>exact hr
  |.error e,hr=>exact hr) λ_ _ e=>e
theorem sp_common {lp:Addr} {p q:Str} (K:Kp B g s) (hr:Rm A 16) (hh:A.handled=none) (hl:SL g lp [p,q]) (hp:Txt.startswith p slash=true) (hq:Txt.startswith q slash=true) (hzp:p.length≤900) (hzq:q.length≤900)
  (hc:∀ i < (minP (compsP p) (compsP q)).length,(minP (compsP p) (compsP q)).take i=(maxP (compsP p) (compsP q)).take i->i < (maxP (compsP p) (compsP q)).length) :
  codeAny (model PG w) A (.call (.ref 254) ⟨[.ref lp],[]⟩) (λr s'=>Ex2 λg' tk=>And3 (r=.ok (.ret (.str (cpP p q) tk))) (Kp B g' s') (Sub g g')) s:=by
 refine call_cellsA (binds:=[(Str.ofString "paths",.ref lp)]) K hr hh (by rfl) (by kernel_rfl) (by rfl) (m1 (.inl (by rfl))) λA L s₁ E hr hh S c=>?_;intro _ _;refine in_envX ?_;intro _;refine gq λ_ z1=>?_;obtain ⟨⟨o1,e1,d1⟩,n1,b1,l1,u1,v1⟩:=c (Str.ofString "sep") (L + 1) none (by rfl) (by rfl);obtain ⟨⟨o2,e2,d2⟩,n2,b2,l2,u2,v2⟩:=c (Str.ofString "curdir") (L + 2) none (by rfl) (by rfl);obtain ⟨m₀,hm₀,S⟩:∃ m₀:Str->Option Value,m₀ (Str.ofString "paths")=some (.ref lp)∧St B L m₀ g s₁:=⟨_,by rfl,S⟩;have S₂:=(S.take e1 b1 l1 u1 v1).take e2 b2 l2 u2 v2;obtain ⟨G,hG⟩:∃ G,G=put (put g (L + 1) o1) (L + 2) o2:=⟨_,rfl⟩;rw [<-hG] at S₂;have g1:G (L + 1)=some o1:=by rw [hG,put_ne (by simp)];exact put_self ..
 have g2:G (L + 2)=some o2:=by rw [hG];exact put_self ..
 have sub0:Sub g G:=λb o e=>by rw [hG,put_ne (ne_none e n2),put_ne (ne_none e n1)];exact e
 clear hG S c e1 e2;have sz:=sizeLine_eq;obtain ⟨ol,vl,h1,h2,h3⟩:=hl;refine z1 ?_;have lvl:=h3.len_eq;walk_at "J";refine o_map ‹_› (sub0 _ _ h1) h2 λs i1 T M nI nT nM S=>?_;walk_at "J";have aT:put G i1 (litO lp 0) i1=some (litO lp 0):=put_self ..;have nTi:T≠i1:=(ne_none aT nT).symm;have aT2:put (put G i1 (litO lp 0)) T (tupO i1) i1=some (litO lp 0):=(put_ne nTi.symm).trans aT;have nMi:M≠i1:=(ne_none aT2 nM).symm;have nMT:T≠M:=ne_none (put_self ..) nM;have nli:lp≠i1:=ne_none (sub0 _ _ h1) nI;have subM:Sub G (put (put (put G i1 (litO lp 0)) T (tupO i1)) M (mapO T (.ref 214))):=((Sub.put nI).trans (Sub.put nT)).trans (Sub.put nM);refine o_tupleMap (i1:=i1) (T:=T) ‹_› (hr.le (by decide)) hh h3 (by rw [lvl];simp) (put_self ..) ((put_ne nMT).trans (put_self ..)) ((put_ne nMi.symm).trans aT2) ⟨rfl,rfl⟩ (subM _ _ (sub0 _ _ h1)) h2 nMi nTi nli λs U oU g' acc hch oT hacc nU S=>?_;have lacc:=hacc.len_eq;have g1:put g' U oU (L + 1)=some o1:=put_of nU (hch _ _ (ne_none g1 nI) (subM _ _ g1));have g2:put g' U oU (L + 2)=some o2:=put_of nU (hch _ _ (ne_none g2 nI) (subM _ _ g2));have sub1:Sub g (put g' U oU):=λb o e=>put_of nU (hch _ _ (ne_none (sub0 _ _ e) nI) (subM _ _ (sub0 _ _ e)));have hU:put g' U oU U=some oU:=put_self ..;obtain ⟨G2,hG2⟩:∃ G2,G2=put g' U oU:=⟨_,rfl⟩;rw [<-hG2] at S g1 g2 sub1 hU;clear hG2 nU hch subM aT aT2 nMT nMi nTi nli nI nT nM sub0;walk_at "J";refine o_truthyT ‹_› hU oT (by rw [lacc];simp) λs S=>?_
 have he:acc.isEmpty=false:=by
  cases acc with
  |nil=>simp at lacc
  |cons=>rfl
 rw [he];walk_at "J";refine x_iteF (by rfl) ?_;walk_at "J";have item:∀ (j:Nat) (v:Value),acc[j]?=some v->∃ y t,v=.str y t∧[p,q][j]?=some y:=λj v h=>hacc.item _ _ h;obtain ⟨tp,htp⟩:=hacc.at (show [p,q][0]?=some p from rfl);refine t_tup ‹_› hU oT (by decide) (by decide) htp ?_;walk_at "J";refine IsiPair.str_bytes ?_;walk_at "J";refine r_str (St.toks (by assumption) _) λs tks S=>?_;walk_at "J";refine r_storeCell ‹_› g1 d1 λs o1' d1' S=>?_;walk_at "J";refine r_storeCell ‹_› ((put_ne (by simp)).trans g2) d2 λs o2' d2' S=>?_;obtain ⟨G3,hG3⟩:∃ G3,G3=put (put G2 (L + 1) o1') (L + 2) o2':=⟨_,rfl⟩;rw [<-hG3] at S;have hU1:U≠L + 1:=λq=>by rw [q,g1] at hU;cases hU;obtain ⟨_,n,e⟩:=oT;rw [d1] at e;cases e
 have hU2:U≠L + 2:=λq=>by rw [q,g2] at hU;cases hU;obtain ⟨_,n,e⟩:=oT;rw [d2] at e;cases e
 have c1:G3 (L + 1)=some o1':=by rw [hG3,put_ne (by simp)];exact put_self ..
 have c2:G3 (L + 2)=some o2':=by rw [hG3];exact put_self ..
 have hU:G3 U=some oU:=by rw [hG3,put_ne hU2,put_ne hU1];exact hU
 have sub3:Sub g G3:=λb o e=>by rw [hG3,put_ne (ne_none e n2),put_ne (ne_none e n1)];exact sub1 _ _ e
 clear hG3 g1 g2 sub1 hU1 hU2;walk_at "J";refine x_tryCut (λ_=>False) ?_ (λ_ h=>h.elim);walk_at "J";refine x_listComp ?_;walk_at "J"
 have hlen:∀ x∈[p,q],x.length≤900:=by
  intro x hx;simp only [List.mem_cons,List.not_mem_nil,or_false] at hx;rcases hx with rfl|rfl
  ·exact hzp
  ·exact hzq
 have hsl:∀ x∈[p,q],Txt.startswith x slash=true:=by
  intro x hx;simp only [List.mem_cons,List.not_mem_nil,or_false] at hx;rcases hx with rfl|rfl
  ·exact hp
  ·exact hq
 refine core_L ‹_› ((O_tuple ‹_› hh (.inl hU) oT).toG) (by rw [lacc];simp) (λi g'' acc2=>And3 (Sub G3 g'') (acc2.length=i) (∀ j x,j < i->[p,q][j]?=some x->∃ a,acc2[j]?=some (.ref a)∧SL g'' a (Txt.split x slash))) ⟨Sub.rfl,rfl,λj x h=>absurd h (Nat.not_lt_zero _)⟩ ?_ ?_ ?_ ?_
 ·rintro i g'' acc2 ⟨_,h,_⟩;exact n_e ‹_›
 ·rintro i g'' acc2 ⟨hs,_⟩ b hb o e;exact hs _ _ e
 ·rintro i v g'' s B' C mC acc2 E' _ hi hv ⟨hsub,hal,hall⟩ S;obtain ⟨y,ty,rfl,hy⟩:=item _ _ hv;have C1:CellAt B' g'' (L + 1) (.str slash _):=⟨_,.inl (hsub _ _ c1),d1'⟩;walk_at "J";refine ifs0 ?_;refine if_t rfl ?_;refine r_strMeth F.slot_str_split F.type_str_split ?_;walk_at "J";refine ⟨_,_,rfl,?_⟩;walk_at "J";refine o_split ‹_› (by decide) (by have:=hlen y (List.mem_of_getElem? hy);exact n_t ‹_› (by decide)) λs D vs oD olD hvs nD S=>?_;walk_at "J";refine ⟨_,_,S,hsub.trans (Sub.put nD),by rw [List.length_append,hal];rfl,λj x hj hx=>?_⟩
  by_cases e:j=i
  ·subst e;rw [hy] at hx;cases hx;exact ⟨D,by rw [List.getElem?_append_right (by exact n_e ‹_›),hal,Nat.sub_self];rfl,oD,vs,put_self ..,olD,hvs⟩
  ·obtain ⟨a,k1,k2⟩:=hall j x (by exact Nat.lt_of_le_of_ne (Nat.le_of_lt_succ ‹_›) ‹_›) hx;exact ⟨a,by rw [List.getElem?_append_left (by exact Nat.lt_of_lt_of_eq (Nat.lt_of_le_of_ne (Nat.le_of_lt_succ ‹_›) ‹_›) (Eq.symm ‹_›))];exact k1,k2.sub (Sub.put nD)⟩
 ·rintro s' D C mC g'' acc2 ⟨hsub,hal,hall⟩ hD aD aC hDC nC S';rw [lacc] at hal hall;refine fin_nameL S' hD aD aC nC hDC ?hk ?hl λs oD olD nD S=>?_
  case hk=>rfl
  case hl=>rfl
  have sub4:Sub G3 (put g'' D oD):=hsub.trans (Sub.put nD);have hD4:put g'' D oD D=some oD:=put_self ..;have hall:=λj x hj hx=>let ⟨a,k1,k2⟩:=hall j x hj hx;(⟨a,k1,k2.sub (Sub.put (o:=oD) nD)⟩:∃ a,acc2[j]?=some (Value.ref a)∧SL (put g'' D oD) a (Txt.split x slash));obtain ⟨G4,hG4⟩:∃ G4,G4=put g'' D oD:=⟨_,rfl⟩;rw [<-hG4] at S sub4 hD4 hall;clear hG4 nD aD aC nC hDC S' hD;walk_at "J";refine x_tryCut (λs=>Ex2 λm' G5=>And4 (St B L m' G5 s) (Sub G4 G5) (m' (Str.ofString "split_paths")=some (.ref D)) (m' (Str.ofString "isabs")=some (.bool true))) ?_ ?_
  ·walk_at "J";refine r_setComp ?_;walk_at "J";refine core_S ‹_› ((O_tuple ‹_› hh (.inl (sub4 _ _ hU)) oT).toG) (λi g''=>G4=g'') rfl ?_ ?_ ?_
   ·rintro i g'' rfl b hb o e;exact e
   ·rintro i v g'' s B' C mC E' _ hi hv rfl S;obtain ⟨y,ty,rfl,hy⟩:=item _ _ hv;have C1:CellAt B' G4 (L + 1) (.str slash _):=⟨_,.inl (sub4 _ _ c1),d1'⟩;walk_at "J";refine ifs0 ⟨rfl,?_⟩;refine r_strMeth F.slot_str_startswith F.type_str_startswith ?_;walk_at "J";refine ⟨_,_,rfl,?_⟩;walk_at "J";refine o_startswith ?_;walk_at "J";exact ⟨by rw [hsl y (List.mem_of_getElem? hy)],_,_,‹_›,rfl⟩
   ·rintro s' Ds C mC g'' rfl hD aD aC hDC nC S';rw [if_neg (by rw [lacc];simp)] at hD;refine fin_valS S' hD aD aC nC hDC λs nDs S=>?_;refine a_set1 S hh (put_self ..) λs S=>?_;walk_at "J";exact ⟨_,_,‹_›,Sub.put nDs,by walk_at "J.m",by walk_at "J.m"⟩
  ·rintro s ⟨m5,G5,S,sub5,h5,h6⟩;have hall:=λj x hj hx=>let ⟨a,k1,k2⟩:=hall j x hj hx;(⟨a,k1,k2.sub sub5⟩:∃ a,acc2[j]?=some (Value.ref a)∧SL G5 a (Txt.split x slash));have c1:=sub5 _ _ (sub4 _ _ c1);have c2:=sub5 _ _ (sub4 _ _ c2);have hD5:=sub5 _ _ hD4;have sub6:Sub g G5:=sub3.trans (sub4.trans sub5);clear sub3 sub4 sub5 hU hD4;walk_at "J";refine x_listComp ?_;walk_at "J";have C2:CellAt B G5 (L + 2) (.str (Str.ofString ".") _):=⟨_,.inl c2,d2'⟩;refine core_L ‹_› ((O_list ‹_› hh (.inl hD5) olD).toG) (by rw [hal];simp) (λi g'' acc3=>And3 (Sub G5 g'') (acc3.length=i) (∀ j x,j < i->[p,q][j]?=some x->∃ a,acc3[j]?=some (.ref a)∧SL g'' a (compsP x))) ⟨Sub.rfl,rfl,λj x h=>absurd h (Nat.not_lt_zero _)⟩ ?_ ?_ ?_ ?_
   ·rintro i g'' acc3 ⟨_,h,_⟩;exact n_e ‹_›
   ·rintro i g'' acc3 ⟨hs,_⟩ b hb o e;exact hs _ _ e
   ·rintro i v g'' s B' C mC acc3 E' _ hi hv ⟨hsub,hal3,hall3⟩ S;rw [hal] at hi;refine gq λ_ z4=>?_;obtain ⟨y,hy⟩:∃ y,[p,q][i]?=some y:=⟨_,List.getElem?_eq_getElem hi⟩;obtain ⟨a,k1,k2⟩:=hall i y hi hy;rw [k1] at hv;cases hv;obtain ⟨oa,va,a1,a2,a3⟩:=k2.sub hsub;refine z4 ?_;have lva:=a3.len_eq;have lsp:=split_le y slash;have lyy:=hlen y (List.mem_of_getElem? hy);walk_at "J";refine ifs0 ?_;refine if_t rfl ?_;refine r_listComp ?_;walk_at "J";refine core_L ‹_› ((O_list ‹_› hh (.inl a1) a2).toG) (by exact om140 lva lsp lyy) (λk h'' acc4=>g''=h''∧StrsAre acc4 (((Txt.split y slash).take k).filter λc=>decide (c≠Str.ofString "") && decide (c≠Str.ofString "."))) ⟨rfl,.nil⟩ ?_ ?_ ?_ ?_
    ·rintro k h'' acc4 ⟨_,h⟩;rw [h.len_eq];exact n_t (List.length_filter_le ..) (by rw [List.length_take];exact Nat.min_le_left _ _)
    ·rintro k h'' acc4 ⟨rfl,_⟩ b hb o e;exact e
    ·rintro k v h'' s B2 C2' mC2 acc4 E2 _ hk hv ⟨rfl,hacc4⟩ S;obtain ⟨z,tz,rfl,hz⟩:=a3.item _ _ hv;have C2:CellAt B2 g'' (L + 2) (.str (Str.ofString ".") _):=⟨_,.inl (hsub _ _ c2),d2'⟩;have htk:(Txt.split y slash).take (k + 1)=(Txt.split y slash).take k ++ [z]:=by rw [List.take_add_one,hz];rfl
     have hzl:=part_short (List.mem_of_getElem? hz);walk_at "J";refine ifs1 ?_;walk_at "J";refine o_truthyS ‹_› (by exact n_t ‹_› (n_t ‹_› (by decide))) λs S=>?_
     by_cases h0:z=Str.ofString ""
     ·have hl0:=str_nil.mpr h0;have:([z].filter λc=>decide (c≠Str.ofString "") && decide (c≠Str.ofString "."))=[]:=by simp [h0]
      rw [hl0];refine if_f (by decide) ?_;refine if_f (by decide) ?_;walk_at "J";rw [htk,List.filter_append,this,List.append_nil];exact ⟨_,_,‹_›,rfl,hacc4⟩
     ·have hl0:¬ z.length=0:=λh=>h0 (str_nil.mp h);refine if_t (by simpa using hl0) ?_;walk_at "J";refine o_neS ?_;walk_at "J"
      by_cases h1:z=Str.ofString "."
      ·have:([z].filter λc=>decide (c≠Str.ofString "") && decide (c≠Str.ofString "."))=[]:=by simp [h1]
       refine if_f (by simpa using h1) ?_;refine if_f (by decide) ?_;walk_at "J";rw [htk,List.filter_append,this,List.append_nil];exact ⟨_,_,‹_›,rfl,hacc4⟩
      ·have:([z].filter λc=>decide (c≠Str.ofString "") && decide (c≠Str.ofString "."))=[z]:=by simp [h0,h1]
       refine if_t (by simpa using h1) ?_;walk_at "J";refine if_t rfl ?_;walk_at "J";rw [htk,List.filter_append,this];exact ⟨_,_,‹_›,rfl,hacc4.append' (.cons _ _ .nil)⟩
    ·rintro s' D3 C mC h'' acc4 ⟨rfl,hacc4⟩ hD aD aC hDC nC S';refine fin_valL S' hD aD aC nC hDC λs oD3 olD3 nD3 S=>?_;rw [lva,List.take_length] at hacc4;walk_at "J";refine ⟨_,_,S,hsub.trans (Sub.put nD3),by rw [List.length_append,hal3];rfl,λj x hj hx=>?_⟩
     by_cases e:j=i
     ·subst e;rw [hy] at hx;cases hx;exact ⟨D3,by rw [List.getElem?_append_right (by exact n_e ‹_›),hal3,Nat.sub_self];rfl,oD3,acc4,put_self ..,olD3,hacc4⟩
     ·obtain ⟨a,k1,k2⟩:=hall3 j x (by exact Nat.lt_of_le_of_ne (Nat.le_of_lt_succ ‹_›) ‹_›) hx;exact ⟨a,by rw [List.getElem?_append_left (by exact Nat.lt_of_lt_of_eq (Nat.lt_of_le_of_ne (Nat.le_of_lt_succ ‹_›) ‹_›) (Eq.symm ‹_›))];exact k1,k2.sub (Sub.put nD3)⟩
   ·rintro s' D2 C mC g'' acc3 ⟨hsub,hal3,hall3⟩ hD aD aC hDC nC S';rw [hal] at hal3 hall3;refine fin_nameL S' hD aD aC nC hDC ?hk ?hl λs oD2 olD2 nD2 S=>?_
    case hk=>rfl
    case hl=>rfl
    have hD6:put g'' D2 oD2 D2=some oD2:=put_self ..;have c1:=Sub.put (o:=oD2) nD2 _ _ (hsub _ _ c1);have sub7:Sub g (put g'' D2 oD2):=sub6.trans (hsub.trans (Sub.put nD2));refine gq λ_ z6=>?_;obtain ⟨a0,k1,k2⟩:=hall3 0 p (by simp) rfl;obtain ⟨a1,k3,k4⟩:=hall3 1 q (by simp) rfl;have k2:=k2.sub (Sub.put (o:=oD2) nD2);have k4:=k4.sub (Sub.put (o:=oD2) nD2)
    have hacc3:acc3=[.ref a0,.ref a1]:=by
     obtain ⟨x,y,rfl⟩:=two_of hal3;cases k1;cases k3;rfl
    rw [hacc3] at olD2;obtain ⟨G7,hG7⟩:∃ G7,G7=put g'' D2 oD2:=⟨_,rfl⟩;refine z6 ?_;rw [<-hG7] at S hD6 c1 sub7 k2 k4;clear hG7 nD2 hall3 hsub hall c2 hD5 aD aC nC hDC S' hD k1 k3;walk_at "J";refine o_mins2 ‹_› (hr.le (by decide)) hh hD6 olD2 k2 k4 λs G8 sub8 S=>?_;walk_at "J";refine o_maxs2 ‹_› (hr.le (by decide)) hh (sub8 _ _ hD6) olD2 (k2.sub sub8) (k4.sub sub8) λs G9 sub9 S=>?_;have k2:=(k2.sub sub8).sub sub9;have k4:=(k4.sub sub8).sub sub9
    have hA:SL G9 (if cmpL false (compsP q) (compsP p)=true then a1 else a0) (minP (compsP p) (compsP q)):=by
     unfold minP
     split
     ·exact k4
     ·exact k2
    have hB:SL G9 (if cmpL true (compsP q) (compsP p)=true then a1 else a0) (maxP (compsP p) (compsP q)):=by
     unfold maxP
     split
     ·exact k4
     ·exact k2
    have c1:=sub9 _ _ (sub8 _ _ c1);have sub10:=sub7.trans (sub8.trans sub9);clear sub7 sub8 sub9 hD6 k2 k4;generalize (if cmpL false (compsP q) (compsP p)=true then a1 else a0)=la at *;generalize (if cmpL true (compsP q) (compsP p)=true then a1 else a0)=lb at *;walk_at "J";obtain ⟨oa,va,x1,x2,x3⟩:=id hA;have lx3:=x3.len_eq
    have lmin:(minP (compsP p) (compsP q)).length≤902:=by
     have h1:=comps_sum p;have h2:=comps_sum q;rcases minP_or (compsP p) (compsP q) with h|h <;> rw [h] <;> omega
    refine o_enumerate ‹_› x1 x2 λs e S OE=>?_;walk_at "J";refine for_cut (λs=>Ex2 λm' G'=>And4 (St B L m' G' s) (Sub G9 G') (m' (Str.ofString "isabs")=some (.bool true)) (∃ lc,m' (Str.ofString "common")=some (.ref lc)∧SL G' lc (lcpP (minP (compsP p) (compsP q)) (maxP (compsP p) (compsP q))))) ?_ ?_
    ·walk_at "J"
     refine for_G (OE hh) (λi m' g''=>And6 (G9=g'') ((minP (compsP p) (compsP q)).take i=(maxP (compsP p) (compsP q)).take i) (m' (Str.ofString "isabs")=some (.bool true)) (m' (Str.ofString "common")=some (.ref la)) (m' (Str.ofString "s1")=some (.ref la)) (m' (Str.ofString "s2")=some (.ref lb)))
      (λv m' g''=>v=none∧Sub G9 g''∧m' (Str.ofString "isabs")=some (.bool true)∧∃ lc,m' (Str.ofString "common")=some (.ref lc)∧SL g'' lc (lcpP (minP (compsP p) (compsP q)) (maxP (compsP p) (compsP q))))
      ⟨rfl,rfl,by walk_at "J.m",by walk_at "J.m",by walk_at "J.m",by walk_at "J.m"⟩ ?_ ?_ ?_ ?_
     ·rintro i m' g'' ⟨rfl,_⟩ b hb o e;exact e
     ·rintro i v m' g'' s₁ B' E₁ _ hi ⟨T,t,y,rfl,hy,hT⟩ ⟨rfl,htk,h1,h2,h3,h4⟩ S;refine gq λ_ z8=>?_;obtain ⟨x,tx,rfl,hx⟩:=x3.item _ _ hy;have hi2:=hc i (by exact Nat.lt_of_lt_of_eq ‹_› ‹_›) htk;obtain ⟨z,hz⟩:∃ z,(maxP (compsP p) (compsP q))[i]?=some z:=⟨_,List.getElem?_eq_getElem hi2⟩;refine z8 ?_;walk_at "J";refine a_tuple2 S hh hT λs S=>?_;walk_at "J";refine t_sl ‹_› hB (by exact om61) (by exact om141 lx3 lmin hi) (by simpa using hz) λu=>?_;walk_at "J";refine o_neS ?_;walk_at "J"
      by_cases h0:x=z
      ·refine x_iteF (by simpa using h0) ?_;walk_at "J";refine ⟨_,_,‹_›,rfl,?_,by walk_at "J.m",by walk_at "J.m",by walk_at "J.m",by walk_at "J.m"⟩;rw [List.take_add_one,List.take_add_one,htk,hx,hz,h0]
      ·refine x_iteT (by simpa using h0) ?_;walk_at "J";refine t_sliceTo ‹_› (x2.isList (St.sub ‹_› x1)) (by exact om61) (by exact n_t (n_e ‹_›) (n_t ‹_› (by decide))) λs D o ol nD S=>?_;walk_at "J";refine ⟨_,_,‹_›,rfl,Sub.put nD,by walk_at "J.m",D,by walk_at "J.m",?_⟩;rw [lcp_take htk hx hz h0];exact ⟨o,_,put_self ..,ol,strs_take x3 _⟩
     ·rintro m' g'' s₁ E₁ ⟨rfl,htk,h1,h2,h3,h4⟩ S;walk_at "J";refine ⟨_,_,S,Sub.rfl,h1,la,h2,?_⟩;rw [lx3,List.take_length] at htk;rw [lcp_all htk];exact hA
     ·rintro v m' g'' s₁ ⟨rfl,hs,h1,h2⟩ S;walk_at "J";exact ⟨_,_,S,hs,h1,h2⟩
    ·rintro s ⟨m7,G',S,subG,h7,lc,h8,olc,vlc,hc1,hc2,hc3⟩;have C1:CellAt B G' (L + 1) (.str slash _):=⟨_,.inl (subG _ _ c1),d1'⟩;walk_at "J";refine if_t rfl ?_;walk_at "J";refine r_strMeth F.slot_str_join F.type_str_join ?_;walk_at "J";refine ⟨_,_,rfl,?_⟩;walk_at "J"
     have hsum:((lcpP (minP (compsP p) (compsP q)) (maxP (compsP p) (compsP q))).map (·.length)).sum + (lcpP (minP (compsP p) (compsP q)) (maxP (compsP p) (compsP q))).length≤901:=by
      have h0:=sum_sub (lcp_sub (minP (compsP p) (compsP q)) (maxP (compsP p) (compsP q)));have h1:=comps_sum p;have h2:=comps_sum q;rcases minP_or (compsP p) (compsP q) with h|h
      ·rw [h] at h0 ⊢;exact om142 hzp h0 h1
      ·rw [h] at h0 ⊢;exact om142 hzq h0 h2
     have hsl1:slash.length=1:=by decide
     refine o_join ‹_› hc1 hc2 hc3 (by rw [hsl1];exact om143 hsum) λs tk S=>?_
     have hjl:(Txt.join slash (lcpP (minP (compsP p) (compsP q)) (maxP (compsP p) (compsP q)))).length≤901:=by
      have:=StrLaws.join_length_le slash (lcpP (minP (compsP p) (compsP q)) (maxP (compsP p) (compsP q)));rw [hsl1] at this;show (Builtin.Str.glued slash _).length≤901;rw [StrLaws.glued_eq_join];exact om144 hsum this
     refine o_addS ‹_› (by rw [hsl1];exact om145 sz hjl) λs tk S=>?_;walk_at "J";exact ⟨G',tk,rfl,S.kp,sub10.trans subG⟩
end
open PySem.SeqAt
theorem range_all {α:Type} [DecidableEq α] {xs ys:List α} (h:xs.length=ys.length):((List.range xs.length).all λj=>decide (xs[j]?=ys[j]?))=decide (xs=ys):=by
 rw [Bool.eq_iff_iff,List.all_eq_true,decide_eq_true_eq]
 constructor
 ·intro k;refine List.ext_getElem? λj=>?_;rcases Nat.lt_or_ge j xs.length with q|q
  ·exact of_decide_eq_true (k j (List.mem_range.mpr q))
  ·rw [List.getElem?_eq_none q,List.getElem?_eq_none (by exact om146 h q)]
 ·rintro rfl j _;exact decide_eq_true rfl
section
variable {w:World} {B:Bs w} {A:Around} {L a b l:Addr} {m m':Str->Option Value} {g:PH} {s:Shared} {env:Env} {E:Value->Shared->Prop} {pl:Sem Bool} {vs:List Value} {ss xs ys:List Str} {ol:Obj} {i:Nat}
theorem o_sumI {ns:List Int} {Q:Value->Shared->Prop} (S:St B L m g s) (hh:A.handled=none) (hl:g l=some ol) (x:OL vs ol) (hi:IntsAre vs ns) (h:∀ s' n t',St B L m g s'->Q (.int n t') s'):wpAny (model PG w) A (call (.builtin "sum") [.ref l]) Q E s:=by
 obtain ⟨xs,hxs⟩:=hi.allInts.items;refine sum_intListG (xs:=xs) hh (by rw [<-hxs];exact x.isList (S.sub hl)) λh' tk t' hk=>?_;exact h _ _ _ (S.grow hk tk)
theorem o_absI {n:Int} {t:Tok} {Q:Value->Shared->Prop} (S:St B L m g s) (h:∀ s' k u,St B L m g s'->Q (.int k u) s'):wpAny (model PG w) A (call (.builtin "abs") [.int n t]) Q E s:=
 call_abs_int λu tk=>h _ _ _ (S.toks tk)
theorem t_slice3 {value sl:Expr} {k k2 k3:Int} {u u2 u3:Tok} {ns:List Int} {Q:Value->Shared->Prop} (S:St B L m g s) (hl:s.heap.IsList l vs.toArray) (hi:IntsAre vs ns) (h0:k3≠0) (hz:vs.length≤1000)
  (h:∀ s' D o' vs' ns',OL vs' o'->IntsAre vs' ns'->vs'.length≤vs.length->g D=none->St B L m (put g D o') s'->Q (.ref D) s')
  (hs:subscripted sl false (.ref l) (.ref s.heap.objs.size)=operate [.ref l,.ref s.heap.objs.size] (getItem (.ref l) (.ref s.heap.objs.size)):=by with_unfolding_all rfl)
  (ht:(λr=>letTemporaryGo value (.ref l) r)=λr=>pure ():=by with_unfolding_all rfl) :
  wpAny (model PG w) A (subscriptTail value sl (.ref l) (.ref s.heap.objs.size)) Q E { s with heap:=s.heap.push { cls:=.type "slice",data:=.fields #[.int k u,.int k2 u2,.int k3 u3] } }:=by
 have sz:=sizeLine_eq;refine slice_list3 (items:=vs.toArray) S.fr (S.news (xs:=[L]) (by simp)) hl (.int k u) (.int k2 u2) (.int k3 u3) (λe=>h0 (Option.some.inj e)) (λh' F' N'=>?_) hs (congrFun ht) (by rw [List.size_toArray];exact n_t ‹_› (by decide));have S':=S.ofNews F' N' (λp hp=>.tail _ hp) s.toks;have hD:=(N' _ (.head _)).1;have gD:=S.kp.fresh (Nat.le_succ s.heap.objs.size);refine h _ _ _ (slicePick vs.toArray (some k) (some k2) (some k3)).toList _ ⟨0,?_⟩ (hi.pick _ _ _) ?_ gD (S'.takeNew S (Nat.le_succ _) hD)
 ·rfl
 ·rw [Array.length_toList];have:=slicePick_size_le vs.toArray (some k) (some k2) (some k3)
  simpa using this
theorem t_slicePre {value sl:Expr} {k:Int} {u:Tok} {Q:Value->Shared->Prop} (S:St B L m g s) (hl:s.heap.IsList l vs.toArray) (hv:StrsAre vs ss) (hz:vs.length≤1000) (hk:k=-1)
  (h:∀ s' D o' vs',OL vs' o'->StrsAre vs' ss.dropLast->g D=none->St B L m (put g D o') s'->Q (.ref D) s')
  (hs:subscripted sl false (.ref l) (.ref s.heap.objs.size)=operate [.ref s.heap.objs.size,.ref l] (getItem (.ref l) (.ref s.heap.objs.size)):=by with_unfolding_all rfl)
  (ht:(λr=>letTemporaryGo value (.ref l) r)=λr=>pure ():=by with_unfolding_all rfl) :
  wpAny (model PG w) A (subscriptTail value sl (.ref l) (.ref s.heap.objs.size)) Q E { s with heap:=s.heap.push { cls:=.type "slice",data:=.fields #[.none,.int k u,.none] } }:=by
 have sz:=sizeLine_eq;subst hk;refine PyProof.Rows.slice_list (items:=vs.toArray) S.fr (S.news (xs:=[L]) (by simp)) hl .none (.int (-1) u) (λh' F' N'=>?_) hs (congrFun ht) (by rw [List.size_toArray];exact n_t ‹_› (by decide));have S':=S.ofNews F' N' (λp hp=>.tail _ hp) s.toks;have hD:=(N' _ (.head _)).1;have gD:=S.kp.fresh (Nat.le_succ s.heap.objs.size)
 have e:slicePick vs.toArray none (some (-1)) none=vs.dropLast.toArray:=by
  have:=slicePick_butLast vs.toArray 1 (Nat.le_refl _);rw [List.dropLast_eq_take]
  simpa using this
 rw [e] at hD;refine h _ _ _ _ ⟨0,rfl⟩ ?_ gD (S'.takeNew S (Nat.le_succ _) hD);rw [List.dropLast_eq_take,List.dropLast_eq_take,<-hv.len_eq];exact strs_take hv _
theorem strs_eqAt {ws:List Value} (hx:StrsAre vs xs) (hy:StrsAre ws ys) (j:Nat) (h1:j < vs.toArray.size) (h2:j < ws.toArray.size):EqAt A s vs.toArray[j] ws.toArray[j] (decide (xs[j]?=ys[j]?)):=by
 have l1:=hx.len_eq;have l2:=hy.len_eq;rw [List.size_toArray] at h1 h2;obtain ⟨t,ht⟩:=hx.at (List.getElem?_eq_getElem (show j < xs.length by exact om147 h1 l1));obtain ⟨u,hu⟩:=hy.at (List.getElem?_eq_getElem (show j < ys.length by exact Nat.lt_of_lt_of_eq ‹_› ‹_›))
 have e1:vs.toArray[j]'(by rw [List.size_toArray];exact h1)=.str xs[j] t:=by
  have:=List.getElem?_eq_getElem h1;rw [ht] at this;simpa using (Option.some.inj this).symm
 have e2:ws.toArray[j]'(by rw [List.size_toArray];exact h2)=.str ys[j] u:=by
  have:=List.getElem?_eq_getElem h2;rw [hu] at this;simpa using (Option.some.inj this).symm
 rw [e1,e2,List.getElem?_eq_getElem (show j < xs.length by exact om147 h1 l1),List.getElem?_eq_getElem (show j < ys.length by exact Nat.lt_of_lt_of_eq ‹_› ‹_›)];have:=EqAt.str_str (A:=A) (s:=s) xs[j] t ys[j] u;have e3:(xs[j] == ys[j])=decide (some xs[j]=some ys[j]):=by rw [Bool.eq_iff_iff];simp
 rwa [e3] at this
theorem rc_SL (K:Kp B g s) (ha:SL g a xs) (hb:SL g b ys) (hu:A.units < 9000):RcAt A s (.ref a) (.ref b) (decide (xs=ys)):=by
 obtain ⟨oa,va,a1,a2,a3⟩:=ha;obtain ⟨ob,vb,b1,b2,b3⟩:=hb;have l1:=a3.len_eq;have l2:=b3.len_eq
 by_cases q:xs.length=ys.length
 ·have:=RcAt.lists (a2.isList (K.sub _ _ a1)) (b2.isList (K.sub _ _ b1)) (by rw [List.size_toArray,List.size_toArray];exact om148 l1 l2 q) (by unfold cLine;exact Nat.lt_of_lt_of_le ‹_› (by decide)) (A:=A) (strs_eqAt a3 b3)
  rwa [List.size_toArray,l1,range_all q] at this
 ·have:=RcAt.lists_lengths (a2.isList (K.sub _ _ a1)) (b2.isList (K.sub _ _ b1)) (A:=A) (by simp;exact om149 l1 l2 q) (by unfold cLine;exact Nat.lt_of_lt_of_le ‹_› (by decide))
  rwa [decide_eq_false (λe=>q (by rw [e]))]
theorem ne_SL (K:Kp B g s) (ha:SL g a xs) (hb:SL g b ys) (hu:A.units < 9000):RcNeAt A s (.ref a) (.ref b) (decide (xs≠ys)):=by
 obtain ⟨oa,va,a1,a2,a3⟩:=ha;obtain ⟨ob,vb,b1,b2,b3⟩:=hb;have l1:=a3.len_eq;have l2:=b3.len_eq
 by_cases q:xs.length=ys.length
 ·have:=RcNeAt.lists (a2.isList (K.sub _ _ a1)) (b2.isList (K.sub _ _ b1)) (by rw [List.size_toArray,List.size_toArray];exact om148 l1 l2 q) (by unfold cLine;exact Nat.lt_of_lt_of_le ‹_› (by decide)) (A:=A) (strs_eqAt a3 b3)
  rwa [List.size_toArray,l1,range_all q,<-decide_not] at this
 ·have:=RcNeAt.lists_lengths (a2.isList (K.sub _ _ a1)) (b2.isList (K.sub _ _ b1)) (A:=A) (by simp;exact om149 l1 l2 q) (by unfold cLine;exact Nat.lt_of_lt_of_le ‹_› (by decide))
  rwa [decide_eq_true (p:=xs≠ys) (λe=>q (by rw [e]))]
theorem o_eqSL {Q:Value->Shared->Prop} (S:St B L m g s) (ha:SL g a xs) (hb:SL g b ys) (hu:A.units < 9000) (h:Q (.bool (decide (xs=ys))) s):wpAny (model PG w) A (compareOp .Eq (.ref a) (.ref b)) Q E s:=rc_SL S.kp ha hb hu PG w E Q h
theorem o_neSL {Q:Value->Shared->Prop} (S:St B L m g s) (ha:SL g a xs) (hb:SL g b ys) (hu:A.units < 9000) (h:Q (.bool (decide (xs≠ys))) s):wpAny (model PG w) A (compareOp .NotEq (.ref a) (.ref b)) Q E s:=ne_SL S.kp ha hb hu PG w E Q h
theorem SL.uniq {l:Addr} {xs ys:List Str} (h:SL g l xs) (k:SL g l ys):xs=ys:=by
 obtain ⟨o,vs,h1,⟨n,h2⟩,h3⟩:=h;obtain ⟨o',vs',k1,⟨n',k2⟩,k3⟩:=k;rw [h1] at k1;cases k1;have:vs=vs':=by rw [h2] at k2;injection k2 with _ _ e _;injection e with e _;simpa using e
 subst this
 have key:∀ {vs:List Value} {xs ys:List Str},StrsAre vs xs->StrsAre vs ys->xs=ys:=by
  intro vs xs ys h
  induction h generalizing ys with
  |nil=>intro k;cases k;rfl
  |cons y t h ih=>intro k;cases k with|cons _ _ k=>rw [ih k]
 exact key h3 k3
theorem o_neLL {xss yss:List (List Str)} {Q:Value->Shared->Prop} (S:St B L m g s) (ha:LL g a xss) (hb:LL g b yss) (hu:A.units < 8900) (h:Q (.bool (decide (xss≠yss))) s):wpAny (model PG w) A (compareOp .NotEq (.ref a) (.ref b)) Q E s:=by
 refine gq λ_ z1=>?_;obtain ⟨oa,va,a1,a2,a3,a4⟩:=ha;obtain ⟨ob,vb,b1,b2,b3,b4⟩:=hb;refine z1 ?_
 have key:RcNeAt A s (.ref a) (.ref b) (decide (xss≠yss)):=by
  by_cases q:xss.length=yss.length
  ·have:=RcNeAt.lists (a2.isList (S.sub a1)) (b2.isList (S.sub b1)) (by rw [List.size_toArray,List.size_toArray];exact om148 a3 b3 q) (by unfold cLine;exact Nat.lt_of_lt_of_le ‹_› (by decide)) (A:=A) (e:=λj=>decide (xss[j]?=yss[j]?)) (λj h1 h2=>?_)
   ·rwa [List.size_toArray,a3,range_all q,<-decide_not] at this
   ·rw [List.size_toArray] at h1 h2;refine gq λ_ z2=>?_;obtain ⟨p,p1,p2,_⟩:=a4 j xss[j] (List.getElem?_eq_getElem (by exact om150 a3 q h1));obtain ⟨r,r1,r2,_⟩:=b4 j yss[j] (List.getElem?_eq_getElem (by exact Nat.lt_of_lt_of_eq ‹_› ‹_›));refine z2 ?_
    have e1:va.toArray[j]'(by rw [List.size_toArray];exact h1)=.ref p:=by
     have:=List.getElem?_eq_getElem h1;rw [p1] at this;simpa using (Option.some.inj this).symm
    have e2:vb.toArray[j]'(by rw [List.size_toArray];exact h2)=.ref r:=by
     have:=List.getElem?_eq_getElem h2;rw [r1] at this;simpa using (Option.some.inj this).symm
    rw [e1,e2,List.getElem?_eq_getElem (show j < xss.length by exact om150 a3 q h1),List.getElem?_eq_getElem (show j < yss.length by exact Nat.lt_of_lt_of_eq ‹_› ‹_›)];have e3:decide (some xss[j]=some yss[j])=decide (xss[j]=yss[j]):=by simp
    rw [e3]
    by_cases hpr:p=r
    ·subst hpr;rw [decide_eq_true (p2.uniq r2)];exact EqAt.same _
    ·exact EqAt.of_refs hpr (rc_SL S.kp p2 r2 (by show A.units + 1 < 9000;exact om151 hu))
  ·have:=RcNeAt.lists_lengths (a2.isList (S.sub a1)) (b2.isList (S.sub b1)) (A:=A) (by simp;exact om149 a3 b3 q) (by unfold cLine;exact Nat.lt_of_lt_of_le ‹_› (by decide))
   rwa [decide_eq_true (p:=xss≠yss) (λe=>q (by rw [e]))]
 exact key PG w E Q h
end
open PySem.SeqAt
section
variable {w:World}
theorem pairs_at {K:Type} [DecidableEq K] {knd:PySem.KeyKind PG w K} {es:List DictEntry} {kvs:List (K×Value)} (h:PySem.Pairs knd es kvs):∀ (i:Nat) (e:DictEntry),es[i]?=some e->∃ kv,And3 (kvs[i]?=some kv) (knd.is kv.1 e.key=true) (e.val=kv.2):=by
 induction h with
 |nil=>intro i e h;simp at h
 |cons h1 h2 _ ih=>
  intro i e h;cases i with
  |zero=>simp at h;subst h;exact ⟨_,rfl,h1,h2⟩
  |succ i=>exact ih i e (by simpa using h)
theorem pairs_len {K:Type} [DecidableEq K] {knd:PySem.KeyKind PG w K} {es:List DictEntry} {kvs:List (K×Value)} (h:PySem.Pairs knd es kvs):es.length=kvs.length:=by
 induction h with
 |nil=>rfl
 |cons _ _ _ ih=>simp [ih]
theorem skvs_get {kvs:List (Str×Value)} {tbl:List (Str×Str)} (h:SKvs kvs tbl):∀ (i:Nat) (p:Str×Value),kvs[i]?=some p->Ex2 λy t=>tbl[i]?=some (p.1,y)∧p.2=.str y t:=by
 induction h with
 |nil=>intro i p h;simp at h
 |cons _ ih=>
  intro i p h;cases i with
  |zero=>simp at h;subst h;exact ⟨_,_,rfl,rfl⟩
  |succ i=>exact ih i p (by simpa using h)
end
section
variable {w:World} {B:Bs w} {A:Around} {L a b l:Addr} {m m':Str->Option Value} {g:PH} {s:Shared} {env:Env} {E:Value->Shared->Prop} {pl:Sem Bool}
theorem same_pairs {oa ob:Obj} {ta tb:List (Str×Str)} {ka kb:List (Str×Value)} {Q:Bool->Shared->Prop} (ha:s.heap.get? a=some oa) (hb:s.heap.get? b=some ob) (xa:OD w ka oa) (xb:OD w kb ob) (ska:SKvs ka ta) (skb:SKvs kb tb)
  (hl:ta.length=tb.length) (hv:∀ x y,ta.lookup x=some y->tb.lookup x=some y) (na:(a == sysModules)=false) (nb:(b == sysModules)=false) (h:Q true s):wpAny (model PG w) A (Builtin.Dict.samePairs "dict.__ne__" a b) Q E s:=by
 refine gq λ_ z1=>?_;obtain ⟨xa1,esa,epa,xa2,xa3,xa4,xa5⟩:=xa;obtain ⟨xb1,esb,epb,xb2,xb3,xb4,xb5⟩:=xb;refine z1 ?_;unfold Builtin.Dict.samePairs;have la:esa.size=ka.length:=by have:=pairs_len xa4;simpa using this
 have lb:esb.size=kb.length:=by have:=pairs_len xb4;simpa using this
 have l1:=ska.len;have l2:=skb.len;unfold Builtin.Dict.showsAll;rw [na,nb];simp -iota only [Bool.false_eq_true,if_false];refine wpAny_bind (wpAny_pure (wpAny_bind (wpAny_pure ?_)));refine wpAny_bind (wpAny_dictEntries ha xa2 ?_);refine wpAny_bind (wpAny_dictEntries hb xb2 ?_);rw [if_neg (by simp;exact om153 hl la lb l1 l2)];refine wpAny_bind (wpAny_dictEpoch ha xa2 ?_);refine wpAny_bind ?_;rw [Std.Legacy.Range.forIn_eq_forIn_range'];refine wpAny_forIn_list _ (λrest b s'=>s'=s∧b=(none,())∧∀ i∈rest,i < esa.size) _ ?_ ?_ _ _ ⟨rfl,rfl,λi hi=>?_⟩
 ·rintro i rest b' s' ⟨rfl,rfl,hi⟩;have hi0:=hi i (.head _);refine wpAny_bind (wpAny_dictEntries ha xa2 ?_);have he:esa[i]?=some esa[i]:=Array.getElem?_eq_getElem hi0;rw [he];dsimp only;refine gq λ_ z2=>?_;obtain ⟨kv,e1,e2,e3⟩:=pairs_at xa4 i esa[i] (by simpa using he);obtain ⟨y,ty,e4,e5⟩:=skvs_get ska i kv e1;obtain ⟨k',q1,q2⟩:=xa3 esa[i] (Array.getElem_mem hi0);have hk:k'=kv.1:=(PySem.strKind PG w).inj _ _ _ q1 e2;subst hk;have hlk:ta.lookup kv.1=some y:=lookup_of_get (by rw [<-ska.keys];exact xa5) e4;obtain ⟨u,hu⟩:=skb.at (hv _ _ hlk);refine z2 ?_
  have hfind:findBy (PySem.strKind PG w).is esb kv.1=some (.str y u):=by
   obtain ⟨o,es,ep,h1,h2,h3,h4,h5⟩:=(show s'.heap.DictOf (PySem.strKind PG w) b kb from ⟨ob,esb,epb,hb,xb1,xb2,xb3,xb4,xb5⟩).mapOf;rw [hb] at h1;cases h1;rw [xb2] at h3;cases h3;rw [h5];exact hu
  rw [findBy_of_findIdx?] at hfind;refine wpAny_bind (wpAny_holding ?_);rw [q2];refine wpAny_bind (wpAny_dictFind_of q1 hb xb2 xb3 ?_);cases hj:esb.findIdx? (λe=>(PySem.strKind PG w).is kv.1 e.key) with
  |none=>rw [hj] at hfind;cases hfind
  |some j=>
   rw [hj] at hfind;dsimp only at hfind ⊢;refine wpAny_bind (wpAny_dictEntries hb xb2 ?_);cases hf:esb[j]? with
   |none=>rw [hf] at hfind;cases hfind
   |some f=>
    rw [hf] at hfind;have hfv:f.val=.str y u:=Option.some.inj hfind;dsimp only;refine wpAny_holding ?_;rw [hfv,e3,e5];refine wpAny_eqBool_str ?_;rw [decide_eq_true rfl,if_neg (by decide)];refine wpAny_bind (wpAny_dictEpoch ha xa2 ?_);rw [if_neg (by simp)];exact wpAny_pure ⟨rfl,rfl,λi hi'=>hi i (.tail _ hi')⟩
 ·rintro b' s' ⟨rfl,rfl,_⟩;exact wpAny_pure h
 ·simp only [List.mem_range'] at hi;obtain ⟨j,h1,h2⟩:=hi;simp at h1 h2;exact om154 hl la l1 l2 h1 h2
theorem o_neD {ta tb:List (Str×Str)} {Q:Value->Shared->Prop} (S:St B L m g s) (ha:SD w g a ta) (hb:SD w g b tb) (hl:ta.length=tb.length) (hv:∀ x y,ta.lookup x=some y->tb.lookup x=some y) (hu:A.units < 9000)
  (h:Q (.bool false) s):wpAny (model PG w) A (compareOp .NotEq (.ref a) (.ref b)) Q E s:=by
 refine gq λ_ z4=>?_;obtain ⟨oa,ka,a1,a2,a3⟩:=ha;obtain ⟨ob,kb,b1,b2,b3⟩:=hb;refine z4 ?_;have hTa:s.TypeIs (.ref a) "dict":=⟨oa,S.sub a1,a2.cls⟩;have hTb:s.TypeIs (.ref b) "dict":=⟨ob,S.sub b1,b2.cls⟩;show wpAny _ _ (richCompare .NotEq (.ref a) (.ref b)) _ _ _;refine wpAny_richCompare_same_room hTa hTb F.slot_dict_ne (wpAny_call_entry F.slot_dict_ne hTa F.entry_dict_ne ?_ (F.args_dict_ne_2 _ _)) (by unfold cLine;exact Nat.lt_of_lt_of_le ‹_› (by decide));show wpAny _ _ (isInstance (.ref b) (.type "dict") >>= _) _ _ _;refine wpAny_bind (wpAny_isInstance (T:="dict") (b:=true) hTb (by rw [isSubtype_type];kernel_rfl) ?_);simp only [Bool.not_true,Bool.false_eq_true,if_false];refine wpAny_bind (m:=Builtin.Dict.addrOf (.ref a)) (wpAny_pure ?_);refine wpAny_bind (m:=Builtin.Dict.addrOf (.ref b)) (wpAny_pure ?_);show wpAny _ _ (Builtin.Dict.samePairs "dict.__ne__" a b >>= _) _ _ _;refine wpAny_bind (same_pairs (S.sub a1) (S.sub b1) a2 b2 a3 b3 hl hv (sysNe S a1) (sysNe S b1) ?_);exact wpAny_pure ⟨_,rfl,⟨(λe=>nomatch e),h⟩⟩
end
theorem turn20 (elt t1 i1 t2 i2:Expr) (ifs:List Expr) (scope:Scope) (pos:Pos) (it acc:Value) (env:Env) :
  compTurn (.ListComp elt [⟨t1,i1,[],0⟩,⟨t2,i2,ifs,0⟩] scope pos) 0 it acc env=(do
   standAt i1.pos
   match <-pyNext it with
   |none=>pure (.done .next)
   |some v=>
    letOwnedTupleGo t1 it v
    assign t1 env v
    let x <-eval i2 env
    standAt i2.pos
    let x <-foldedSetIterable i2 env x
    let _ <-runOwn (.compStart (.ListComp elt [⟨t1,i1,[],0⟩,⟨t2,i2,ifs,0⟩] scope pos) 1 (<-holding [x] (pyIter x)) acc env) env
    again (.compLoop (.ListComp elt [⟨t1,i1,[],0⟩,⟨t2,i2,ifs,0⟩] scope pos) 0 it acc env)):=by rfl
theorem turn21 (elt t1 i1 t2 i2:Expr) (ifs:List Expr) (scope:Scope) (pos:Pos) (it acc:Value) (env:Env) :
  compTurn (.ListComp elt [⟨t1,i1,[],0⟩,⟨t2,i2,ifs,0⟩] scope pos) 1 it acc env=(do
   standAt i2.pos
   match <-pyNext it with
   |none=>pure (.done .next)
   |some v=>
    letOwnedTupleGo t2 it v
    assign t2 env v
    let mut ok:=true
    for c in ifs do
     if ok then ok <-isTrue c env (eval c env)
    if ok then
     (do let _ <-call (.builtin "list.append") [acc,<-eval elt env])
    again (.compLoop (.ListComp elt [⟨t1,i1,[],0⟩,⟨t2,i2,ifs,0⟩] scope pos) 1 it acc env)):=by rfl
section
variable {w:World} {B:Bs w} {A:Around} {L a b l:Addr} {m m':Str->Option Value} {g:PH} {s:Shared} {env:Env} {E:Value->Shared->Prop} {pl:Sem Bool} {R:Result->Shared->Prop}
theorem compStart1 {elt t1 i1 t2 i2:Expr} {ifs:List Expr} {scope:Scope} {pos:Pos} {it acc:Value}
  (h0:codeAny (model PG w) A (.compLoop (.ListComp elt [⟨t1,i1,[],0⟩,⟨t2,i2,ifs,0⟩] scope pos) 1 it acc env) R s)
  (h:wpAny (model PG w) A (pyIter it) (λit' s'=>codeAny (model PG w) A (.compLoop (.ListComp elt [⟨t1,i1,[],0⟩,⟨t2,i2,ifs,0⟩] scope pos) 1 it' acc env) R s')
   (notedBy (model PG w) A env λx s'=>R (.error x) s') s) :
  codeAny (model PG w) A (.compStart (.ListComp elt [⟨t1,i1,[],0⟩,⟨t2,i2,ifs,0⟩] scope pos) 1 it acc env) R s:=by
 refine codeAny_of_tree ?_;show wpAny _ _ ((compStart (.ListComp elt [⟨t1,i1,[],0⟩,⟨t2,i2,ifs,0⟩] scope pos) 1 it acc env).onRaise (λx=>do noteFrame x env;standAt theWindowsPlace)) _ _ s;refine wpAny_notedAt ?_;unfold compStart;show wpAny _ _ (ask >>= _) _ _ s;refine wpAny_bind (wpAny_askSetting (wpAny_ite ?_))
 split
 ·first
   |exact wpAny_bind (wpAny_pure (wpAny_pure (And.intro rfl h0)))
   |exact wpAny_pure (And.intro rfl h0)
 ·first
   |exact wpAny_bind (wpAny_rule (wpAny_bind (wpAny_standAt (wpAny_bind (wpAny_mono h (λit' s' h'=>wpAny_pure (And.intro rfl h')) λ_ _ e=>e)))))
   |(refine wpAny_bind (wpAny_rule ?_);show wpAny _ _ (standAt i2.pos >>= _) _ _ s;exact wpAny_bind (wpAny_standAt (wpAny_bind (wpAny_mono h (λit' s' h'=>wpAny_pure (And.intro rfl h')) λ_ _ e=>e))))
theorem loop21 {elt t1 i1 t2 i2:Expr} {ifs:List Expr} {scope:Scope} {pos:Pos} {It Dd gl:Addr} {vs:List Value} {ss:List Str} {og:Obj} (keep:Str->Bool) (hh:A.handled=none) (hv:StrsAre vs ss) (ol:OL vs og)
  (hlet:∀ v,letOwnedTupleGo t2 (.ref It) v=pure ())
  (turn:∀ G m s y t E,G gl=some og->Sub g G->St B L m G s->wpAny (model PG w) A (assign t2 env (.str y t)) (λ_ s₂=>wpAny (model PG w) A (forIn ifs true λc r=>if r=true then do let ok <-isTrue c env (eval c env);pure (ForInStep.yield ok) else pure (ForInStep.yield r)) (λok s₃=>
   if ok=true then wpAny (model PG w) A (eval elt env) (λz s₄=>keep y=true∧Ex2 λm' t'=>z=.str y t'∧St B L m' G s₄) E s₃ else keep y=false∧∃ m',St B L m' G s₃) E s₂) E s)
  (hnI:It≠Dd) (hnG:gl≠Dd) (hnIG:gl≠It):∀ (k i:Nat) (G:PH) (m:Str->Option Value) (s:Shared) (acc:List Value) (as:List Str),vs.length - i=k->i≤vs.length->St B L m G s->Sub g G->G gl=some og->(∃ o,G It=some o∧LIt gl i o)->(∃ o,G Dd=some o∧OL acc o)->g Dd=none->g It=none->StrsAre acc as->as.length + vs.length - i≤1000 ->
  (∀ m' s' G' acc' ,(∀ b o,b≠It->b≠Dd->G b=some o->G' b=some o)->(∃ o,G' Dd=some o∧OL acc' o)->StrsAre acc' (as ++ (ss.drop i).filter keep)->G' It=none->(∀ b,b≠It->b≠Dd->G b=none->G' b=none)->St B L m' G' s'->R (.ok .next) s') ->
  codeAny (model PG w) A (.compLoop (.ListComp elt [⟨t1,i1,[],0⟩,⟨t2,i2,ifs,0⟩] scope pos) 1 (.ref It) (.ref Dd) env) R s:=by
 have sz:=sizeLine_eq;have lv:=hv.len_eq;intro k
 induction k with
 |zero=>
  intro i G m s acc as hk hi S hsub hgl ⟨oi,hi1,hi2⟩ ⟨od,hd1,hd2⟩ nD nI hacc hz hR;refine codeAny_of_tree ?_;show wpAny _ A ((compTurn (.ListComp elt [⟨t1,i1,[],0⟩,⟨t2,i2,ifs,0⟩] scope pos) 1 (.ref It) (.ref Dd) env).onRaise (λx=>do noteFrame x env;theTreesLotGoes x)) _ _ s;refine wpAny_noted ?_;rw [turn21];refine wpAny_bind (wpAny_standAt (wpAny_bind ?_));refine end_li S hh hi1 hi2 hgl ol (List.getElem?_eq_none (by exact om112 lv hk)) λs' S'=>?_;have hdr:(ss.drop i).filter keep=[]:=by rw [List.drop_of_length_le (by exact om113 lv hk)];rfl
  refine wpAny_pure (hR m s' _ acc (λb o h1 h2 e=>dropA_of e h1) ⟨od,dropA_of hd1 hnI.symm,hd2⟩ (by rw [hdr,List.append_nil];exact hacc) (if_pos rfl) (λb h1 h2 e=>by unfold dropA;rw [if_neg h1];exact e) S')
 |succ k ih=>
  intro i G m s acc as hk hi S hsub hgl ⟨oi,hi1,hi2⟩ ⟨od,hd1,hd2⟩ nD nI hacc hz hR;refine gq λ_ z1=>?_;obtain ⟨y,hy⟩:∃ y,ss[i]?=some y:=⟨_,List.getElem?_eq_getElem (by exact om114 lv hk hi)⟩;obtain ⟨t,ht⟩:=hv.at hy;refine z1 ?_
  have hdr:(ss.drop i).filter keep=(if keep y=true then [y] else []) ++ (ss.drop (i + 1)).filter keep:=by
   rw [drop_at hy,List.filter_cons]
   split
   ·rfl
   ·rfl
  refine codeAny_of_tree ?_;show wpAny _ A ((compTurn (.ListComp elt [⟨t1,i1,[],0⟩,⟨t2,i2,ifs,0⟩] scope pos) 1 (.ref It) (.ref Dd) env).onRaise (λx=>do noteFrame x env;theTreesLotGoes x)) _ _ s;refine wpAny_noted ?_;rw [turn21];refine wpAny_bind (wpAny_standAt (wpAny_bind ?_));refine next_li S hi1 hi2 hgl ol ht λs o' hit S=>?_;dsimp only;rw [hlet];refine wpAny_bind (wpAny_pure ?_);have hsub':Sub g (put G It o'):=λb o e=>by rw [put_ne (ne_none e nI)];exact hsub _ _ e
  have hgl':put G It o' gl=some og:=(put_ne hnIG).trans hgl;have hd1':put G It o' Dd=some od:=(put_ne hnI.symm).trans hd1
  have rest:∀ (m₂:Str->Option Value) (s₂:Shared) (G₂:PH) (acc₂:List Value) (as₂:List Str),St B L m₂ G₂ s₂->(∀ b o,b≠It->b≠Dd->G b=some o->G₂ b=some o)->(∀ b,b≠It->b≠Dd->G b=none->G₂ b=none)->(∃ o,G₂ It=some o∧LIt gl (i + 1) o)->(∃ o,G₂ Dd=some o∧OL acc₂ o)->StrsAre acc₂ as₂->as₂=as ++ (if keep y=true then [y] else []) ->
    codeAny (model PG w) A (.compLoop (.ListComp elt [⟨t1,i1,[],0⟩,⟨t2,i2,ifs,0⟩] scope pos) 1 (.ref It) (.ref Dd) env) R s₂:=by
   intro m₂ s₂ G₂ acc₂ as₂ S₂ hG hN hI hD hacc₂ has;have las:as₂.length≤as.length + 1:=by rw [has,List.length_append];split <;> simp
   refine ih (i + 1) G₂ m₂ s₂ acc₂ as₂ (by exact om155 lv hk hi las) (by exact om118 lv hk hi) S₂ (λb o e=>hG _ _ (ne_none e nI) (ne_none e nD) (hsub _ _ e)) (hG _ _ hnIG hnG hgl) hI hD nD nI hacc₂ (by exact om156 lv hz las) λm' s' G' acc' h1 h2 h3 h4 h5 S'=>?_;refine hR m' s' G' acc' (λb o e1 e2 e=>h1 _ _ e1 e2 (hG _ _ e1 e2 e)) h2 ?_ h4 (λb e1 e2 e=>h5 _ e1 e2 (hN _ e1 e2 e)) S';rw [hdr,<-List.append_assoc,<-has];exact h3
  refine wpAny_bind (wpAny_mono (turn _ m s y t _ hgl' hsub' S) (λ_ s₂ h₂=>wpAny_bind (wpAny_mono h₂ (λok s₃ h₃=>?_) λ_ _ e=>e)) λ_ _ e=>e);cases ok with
  |false=>
   simp only [Bool.false_eq_true,if_false] at h₃;obtain ⟨hk',m',S'⟩:=h₃;refine wpAny_pure ⟨rfl,rest m' s₃ _ acc as S' (λb o h1 h2 e=>(put_ne h1).trans e) (λb h1 h2 e=>(put_ne h1).trans e) ⟨o',put_self ..,hit⟩ ⟨od,hd1',hd2⟩ hacc (by rw [hk'];simp)⟩
  |true=>
   simp only [if_true] at h₃;refine wpAny_bind (wpAny_bind (wpAny_mono h₃ (λz s₄ h₄=>?_) λ_ _ e=>e));obtain ⟨hk',m',t',rfl,S'⟩:=h₄;have lacc:=hacc.len_eq;refine wpAny_bind (o_append S' hd1' hd2 (by exact om157 sz lv hi hz lacc) λs₅ od' hd2' S₅=>?_);refine wpAny_pure (wpAny_pure ⟨rfl,rest m' s₅ _ _ _ S₅ (λb o h1 h2 e=>(put_ne h2).trans ((put_ne h1).trans e)) (λb h1 h2 e=>(put_ne h2).trans ((put_ne h1).trans e)) ⟨o',(put_ne hnI).trans (put_self ..),hit⟩ ⟨od',put_self ..,hd2'⟩ (hacc.append' (.cons _ _ .nil)) (by rw [hk'];simp)⟩)
end
section
variable {w:World} {B:Bs w} {A:Around} {L a b l:Addr} {m m':Str->Option Value} {g:PH} {s:Shared} {env:Env} {E:Value->Shared->Prop} {pl:Sem Bool} {R:Result->Shared->Prop}
theorem loop20 {elt i1 t2:Expr} {x:Str} {p1 p2:Pos} {ifs:List Expr} {scope:Scope} {pos:Pos} {It Dd lo:Addr} {vs:List Value} {rds:List (List Str)} {oo:Obj} (keep:Str->Bool) (hh:A.handled=none)
  (gl:g lo=some oo) (xl:OL vs oo) (hlen:vs.length=rds.length) (hat:∀ (i:Nat) r,rds[i]?=some r->∃ a,And3 (vs[i]?=some (.ref a)) (SL g a r) (a≠lo))
  (hloc:env.kindOf x=some .local) (hfun:env.scope.kind=.function) (hlet:∀ It v,letOwnedTupleGo t2 (.ref It) v=pure ())
  (hdb:(x == ("__debug__":Str))=false)
  (turn:∀ G m s y t E,Sub g G->St B env.locals m G s->wpAny (model PG w) (A.mark none) (assign t2 env (.str y t)) (λ_ s₂=>wpAny (model PG w) (A.mark none) (forIn ifs true λc r=>if r=true then do let ok <-isTrue c env (eval c env);pure (ForInStep.yield ok) else pure (ForInStep.yield r)) (λok s₃=>
   if ok=true then wpAny (model PG w) (A.mark none) (eval elt env) (λz s₄=>keep y=true∧Ex2 λm' t'=>z=.str y t'∧St B env.locals m' G s₄) E s₃ else keep y=false∧∃ m',St B env.locals m' G s₃) E s₂) E s)
  (hnI:It≠Dd) (nD:g Dd=none) (nI:g It=none) (hz:rds.flatten.length≤400):∀ (k i:Nat) (G:PH) (m:Str->Option Value) (s:Shared) (acc:List Value),vs.length - i=k->i≤vs.length->St B env.locals m G s->Sub g G->(∀ b,b≠It->b≠Dd->G b=g b)->(∃ o,G It=some o∧LIt lo i o)->(∃ o,G Dd=some o∧OL acc o)->StrsAre acc ((rds.take i).flatten.filter keep) ->
  (∀ m' s' G' acc',(∀ b,b≠Dd->G' b=g b)->(∃ o,G' Dd=some o∧OL acc' o)->StrsAre acc' (rds.flatten.filter keep)->St B env.locals m' G' s'->R (.ok .next) s') ->
  codeAny (model PG w) A (.compLoop (.ListComp elt [⟨.Name x p1,i1,[],0⟩,⟨t2,.Name x p2,ifs,0⟩] scope pos) 0 (.ref It) (.ref Dd) env) R s:=by
 have ne:∀ {b o},g b=some o->b≠It:=λe=>ne_none e nI;have neD:∀ {b o},g b=some o->b≠Dd:=λe=>ne_none e nD;intro k
 induction k with
 |zero=>
  intro i G m s acc hk hi S hsub hG ⟨oi,hi1,hi2⟩ ⟨od,hd1,hd2⟩ hacc hR;refine codeAny_of_tree ?_;show wpAny _ A ((compTurn (.ListComp elt [⟨.Name x p1,i1,[],0⟩,⟨t2,.Name x p2,ifs,0⟩] scope pos) 0 (.ref It) (.ref Dd) env).onRaise (λx=>do noteFrame x env;theTreesLotGoes x)) _ _ s;refine wpAny_noted ?_;rw [turn20];refine wpAny_bind (wpAny_standAt (wpAny_bind ?_));refine end_li S hh hi1 hi2 (hsub _ _ gl) xl (List.getElem?_eq_none (by exact om112 hlen hk)) λs' S'=>?_;refine wpAny_pure (hR m s' _ acc (λb hb=>?_) ⟨od,dropA_of hd1 hnI.symm,hd2⟩ (by rw [List.take_of_length_le (by exact om113 hlen hk)] at hacc;exact hacc) S');unfold dropA
  by_cases q:b=It
  ·subst q;rw [if_pos rfl,nI]
  ·rw [if_neg q];exact hG b q hb
 |succ k ih=>
  intro i G m s acc hk hi S hsub hG ⟨oi,hi1,hi2⟩ ⟨od,hd1,hd2⟩ hacc hR;refine gq λ_ z1=>?_;obtain ⟨r,hr⟩:∃ r,rds[i]?=some r:=⟨_,List.getElem?_eq_getElem (by exact om114 hlen hk hi)⟩;obtain ⟨a,ha,hsl,hal⟩:=hat i r hr;have htk:rds.take (i + 1)=rds.take i ++ [r]:=by rw [List.take_add_one,hr];rfl
  have hlf:(rds.take i).flatten.length + r.length≤rds.flatten.length:=by
   conv=>rhs;rw [<-List.take_append_drop (i + 1) rds,htk]
   simp only [List.flatten_append,List.length_append,List.flatten_cons,List.flatten_nil,List.append_nil];exact om158
  have lacc:=hacc.len_eq;have lf:=List.length_filter_le keep (rds.take i).flatten;obtain ⟨og,vg,e1,xg,hvg⟩:=hsl;refine z1 ?_;have lvg:=hvg.len_eq;refine codeAny_of_tree ?_;show wpAny _ A ((compTurn (.ListComp elt [⟨.Name x p1,i1,[],0⟩,⟨t2,.Name x p2,ifs,0⟩] scope pos) 0 (.ref It) (.ref Dd) env).onRaise (λx=>do noteFrame x env;theTreesLotGoes x)) _ _ s;refine wpAny_noted ?_;rw [turn20];refine wpAny_bind (wpAny_standAt (wpAny_bind ?_));refine next_li S hi1 hi2 (hsub _ _ gl) xl ha λs o' hit S=>?_;dsimp only;refine wpAny_bind (wpAny_pure (wpAny_bind ?_));refine a_name (r_store S ?_ hfun hloc);intro s S;refine wpAny_bind (r_local S (up_hit ..) ?_ hfun hloc hdb);refine wpAny_bind (wpAny_standAt (wpAny_bind (wpAny_pure (wpAny_bind (wpAny_holding ?_)))));have hsub':Sub g (put G It o'):=λb o e=>(put_ne (ne e)).trans (hsub _ _ e);refine wpAny_pyIter_list (xg.isList (S.sub (hsub' _ _ e1))) ?_;have S2:=S.alloc { cls:=.type "list_iterator",data:=.fields #[.ref a,.int 0 0] } s.toks;have nJ:put G It o' s.heap.objs.size=none:=S.kp.fresh (Nat.le_refl _);generalize hJ:s.heap.objs.size=J at *;have nJI:J≠It:=by rintro rfl;rw [put_self] at nJ;cases nJ
  have hd1':put G It o' Dd=some od:=(put_ne hnI.symm).trans hd1;have nJD:J≠Dd:=by rintro rfl;rw [hd1'] at nJ;cases nJ
  have gJ:g J=none:=by
   cases q:g J with
   |none=>rfl
   |some o=>rw [hsub' _ _ q] at nJ;cases nJ
  have hJs:∀ {b o},put G It o' b=some o->b≠J:=λe=>ne_none e nJ;refine wpAny_bind (wpAny_runOwn ?_)
  have key:=λ(R':Result->Shared->Prop) (hR':_)=>
   let body:=loop21 (R:=R') (elt:=elt) (t1:=.Name x p1) (i1:=i1) (i2:=.Name x p2) (ifs:=ifs) (scope:=scope) (pos:=pos) (It:=J) (Dd:=Dd) (gl:=a) (ss:=r) (A:=A.mark none) (g:=g) keep hh hvg xg (hlet J) (λG m s y t E _=>turn G m s y t E) nJD (neD e1) (ne_none e1 gJ) vg.length 0 _ _ _ acc _ rfl (Nat.zero_le _) S2 (λb o e=>(put_ne (ne_none e gJ)).trans (hsub' _ _ e)) ((put_ne (ne_none e1 gJ)).trans (hsub' _ _ e1)) ⟨_,put_self ..,rfl,rfl⟩ ⟨od,(put_ne nJD.symm).trans hd1',hd2⟩ nD gJ hacc (by exact om159 hz hlf lf lvg) hR'
   compStart1 body (wpAny_pyIter_listiter ⟨_,S2.sub (put_self ..),rfl,rfl⟩ body)
  refine key _ λm' s' G' acc' h1 h2 h3 h4 h5 S'=>?_;refine wpAny_pure ⟨rfl,ih (i + 1) G' m' s' acc' (by exact om160 hlen hk hi nJI nJD) (by exact om161 hlen hk hi nJI nJD) S' (λb o e=>h1 _ _ (ne_none e gJ) (neD e) ((put_ne (ne_none e gJ)).trans (hsub' _ _ e))) (λb hb hb'=>?_) ⟨o',h1 _ _ nJI.symm hnI ((put_ne nJI.symm).trans (put_self ..)),hit⟩ h2 ?_ hR⟩
  ·by_cases q:b=J
   ·subst q;rw [h4,gJ]
   ·have e0:put (put G It o') J { cls:=.type "list_iterator",data:=.fields #[.ref a,.int 0 0] } b=g b:=(put_ne q).trans ((put_ne hb).trans (hG b hb hb'));cases z:g b with
    |none=>exact h5 b q hb' (e0.trans z)
    |some o=>exact h1 b o q hb' (e0.trans z)
  ·rw [htk];simp only [List.flatten_append,List.filter_append,List.flatten_cons,List.flatten_nil,List.append_nil];exact h3
end
section
variable {w:World} {B:Bs w} {A:Around} {L a b l:Addr} {m m':Str->Option Value} {g:PH} {s:Shared} {env:Env} {E:Value->Shared->Prop} {pl:Sem Bool} {R:Result->Shared->Prop}
theorem r_flat {elt i1 t2:Expr} {x:Str} {p1 p2:Pos} {ifs:List Expr} {scope:Scope} {pos:Pos} {cl:List (Str×Addr)} {lo:Addr} {rds:List (List Str)} {Q:Value->Shared->Prop} (keep:Str->Bool)
  (hh:A.handled=none) (hz:rds.flatten.length≤400)
  (h1:wpAny (model PG w) A (eval i1 env) (λv s₁=>v=.ref lo∧LL g lo rds∧St B env.locals m g s₁) E s)
  (turn:∀ (B':Bs w) C G m s y t E,Le B B'->Sub g G->St B' (compEnvC scope cl C env).locals m G s->wpAny (model PG w) (A.mark none) (assign t2 (compEnvC scope cl C env) (.str y t)) (λ_ s₂=>wpAny (model PG w) (A.mark none) (forIn ifs true λc r=>if r=true then do let ok <-isTrue c (compEnvC scope cl C env) (eval c (compEnvC scope cl C env));pure (ForInStep.yield ok) else pure (ForInStep.yield r)) (λok s₃=>
   if ok=true then wpAny (model PG w) (A.mark none) (eval elt (compEnvC scope cl C env)) (λz s₄=>keep y=true∧Ex2 λm' t'=>z=.str y t'∧St B' (compEnvC scope cl C env).locals m' G s₄) E s₃ else keep y=false∧∃ m',St B' (compEnvC scope cl C env).locals m' G s₃) E s₂) E s)
  (h:∀ s' D o,SL (put g D o) D (rds.flatten.filter keep)->g D=none->St B env.locals m (put g D o) s'->Q (.ref D) s')
  (hclos:closureFor scope env=pure cl:=by rfl) (hkind:scope.kind=.function:=by rfl) (hnames:∀ x∈scope.names,x.2=.local->scope.names.lookup x.1=some .local:=by decide)
  (hs:(λx=>foldedSetIterable i1 env x)=λx=>pure x:=by rfl) (hcell:∀ y∈scope.names,y.2≠.cell:=by decide)
  (hloc:(λC=>(compEnvC scope cl C env).kindOf x)=λC=>some .local:=by rfl) (hlet:(λIt v=>letOwnedTupleGo t2 (.ref It) v)=λIt v=>pure ():=by rfl)
  (hdb:(x == ("__debug__":Str))=false:=by decide):wpAny (model PG w) A (eval (.ListComp elt [⟨.Name x p1,i1,[],0⟩,⟨t2,.Name x p2,ifs,0⟩] scope pos) env) Q E s:=by
 rw [arm_eval_ListComp];refine wpAny_comprehension_free (use:=none) rfl (congrFun hs) hclos hkind hnames (wpAny_mono h1 (λv s₁ h₁=>?_) λ_ _ e=>e);refine gq λ_ z1=>?_;obtain ⟨rfl,⟨ol,vs,e1,xl,hlen,hat⟩,S₁⟩:=h₁;refine z1 ?_;refine wpAny_pyIter_list (xl.isList (S₁.sub e1)) ?_;have S₂:=S₁.alloc { cls:=.type "list_iterator",data:=.fields #[.ref lo,.int 0 0] } s₁.toks;have nI:g s₁.heap.objs.size=none:=S₁.kp.fresh (Nat.le_refl _);have sz2:(s₁.heap.push { cls:=.type "list_iterator",data:=.fields #[.ref lo,.int 0 0] }).objs.size=s₁.heap.objs.size + 1:=by simp [Heap.push]
 refine wpAny_newObj_type (wpAny_newFunctionEnv hcell (by intro y hy;simp at hy) (λh₁ hns₁ hsb₁=>?_) hkind);dsimp only at hns₁ hsb₁ S₂ ⊢;generalize hIt:s₁.heap.objs.size=It at *;have nIL:It≠env.locals:=by rw [<-hIt];exact Nat.ne_of_gt S₁.ns.lt
 generalize hH1:s₁.heap.push { cls:=.type "list_iterator",data:=.fields #[.ref lo,.int 0 0] }=H1 at *;have S₃:=S₂.alloc { cls:=.type "list",data:=.seq ([]:List Value).toArray } s₁.toks;have nD':put g It { cls:=.type "list_iterator",data:=.fields #[.ref lo,.int 0 0] } H1.objs.size=none:=S₂.kp.fresh (Nat.le_refl _);dsimp only at S₃ nD';have DL:H1.objs.size≠env.locals:=Nat.ne_of_gt S₂.ns.lt;generalize hDn:H1.objs.size=Dd at *;have nID:It≠Dd:=by rintro rfl;rw [put_self] at nD';cases nD'
 have nD:g Dd=none:=(put_ne nID.symm).symm.trans nD';generalize hH2:H1.push { cls:=.type "list",data:=.seq ([]:List Value).toArray }=H2 at *;obtain ⟨r,r1,r2,rL,K,back⟩:=S₃.callL;have hsz:=K.size;have old:∀ b o,H2.get? b=some o->h₁.get? b=some o:=λb o e=>hsb₁.extBut b o (Nat.ne_of_lt (Heap.lt_size e)) (by first|exact e|exact Heap.get?_push_of_some _ e)
 have CL:H2.objs.size≠env.locals:=Nat.ne_of_gt S₃.ns.lt;have Cbase:B.base H2.objs.size=none:=S₃.kp.freshB (Nat.le_refl _)
 have SC:∀ tk,St (B.ext r r1 r2) H2.objs.size (λy=>([]:List (Str×Value)).reverse.lookup y) _ { s₁ with heap:=h₁,toks:=tk }:=λtk=>
  ⟨K.grow (λb o e=>old b o e) tk,hns₁,K.fresh (Nat.le_refl _),K.freshB (Nat.le_refl _),Nat.ne_of_gt hsz.1,Nat.ne_of_gt hsz.2⟩
 have gC:g H2.objs.size=none:=by
  have:=K.fresh (Nat.le_refl _);cases q:g H2.objs.size with
  |none=>rfl
  |some o=>
   rw [put_ne (ne_none q nD),put_ne (ne_none q nI),q] at this;cases this
 have hB1:Le B (B.ext r r1 r2):=λb o e=>extB_of e;have loop:=λ(tk:Nat) RR hR=>loop20 (B:=B.ext r r1 r2) (A:=A) (g:=g) (R:=RR) (env:=compEnvC scope cl H2.objs.size env) (elt:=elt) (i1:=i1) (t2:=t2) (x:=x) (p1:=p1) (p2:=p2) (ifs:=ifs) (scope:=scope) (pos:=pos) (It:=It) (Dd:=Dd) keep hh e1 xl hlen hat (congrFun hloc _) hkind (λIt=>congrFun (congrFun hlet It)) hdb (λG m s y t E=>turn _ _ G m s y t E hB1) nID nD nI hz vs.length 0 _ _ _ [] rfl (Nat.zero_le _) (SC tk) (λb o e=>(put_ne (ne_none e nD)).trans ((put_ne (ne_none e nI)).trans e)) (λb h1 h2=>(put_ne h2).trans (put_ne h1)) ⟨_,(put_ne nID).trans (put_self ..),rfl,rfl⟩ ⟨_,put_self ..,⟨0,rfl⟩⟩ .nil hR;have hI1:∀ tk,({ s₁ with heap:=h₁,toks:=tk }:Shared).heap.IsListIter It lo 0:=λtk=>⟨_,(SC tk).sub ((put_ne nID).trans (put_self ..)),rfl,rfl⟩;refine (λq=>codeAny_compStart_list (loop _ _ q) (wpAny_pyIter_listiter (hI1 _) (loop _ _ q))) ?_;intro m' s' G' acc hG ⟨oD,hD1,hD2⟩ hacc S'
 have eG:G'=put g Dd oD:=by
  funext b
  by_cases q:b=Dd
  ·subst q;rw [hD1,put_self]
  ·rw [hG b q,put_ne q]
 subst eG;have S'':=back _ _ S'.kp
 have aC:Away B env.locals (put g Dd oD) [H2.objs.size] s'.heap:=by
  exact .one Cbase S'.off CL S'.o1 S'.o2 S'.isL
 refine post_value S'' aC S'.ns (by rintro rfl;exact absurd (S'.off.symm.trans hD1) (by intro e;cases e)) λs₂ S₂ _=>h s₂ Dd oD ⟨oD,acc,put_self ..,hD2,hacc⟩ nD S₂
end
theorem noImports:importsNone kq=true:=by kernel_rfl
section
variable {w:World} {mg mb:Str->Option Value} {GH h₁:Heap} {L:Addr} {m:Str->Option Value} {lo:List Str} {me:ExcName->Option Value} {s:Shared}
theorem law_start (X:(HF w).In GH) (T:Top topProg lo me mg mb GH) (hsm:∃ o,GH.get? sysModules=some o) (F:Fr GH L s.heap m) (c1:CodeHd GH 323 321) (c2:CodeHd GH 297 293) (e1:GH.get? 321=none) (e2:GH.get? 293=none)
  (n1:s.heap.get? 321=some (tabObj #[])) (n2:s.heap.get? 293=some (tabObj #[])) (l1:L≠321) (l2:L≠293) (hg:s.gens=#[]) :
  ∃ B:Bs w,And4 (B.os=s.os) (B.fenv=[]) ((∀ b,B.base b=(GH.get? b).map .ex)) (St B L m (λ_=>none) s):=by
 have ov:∀ h,Over (λb=>(GH.get? b).map BO.ex) h->∀ b o,GH.get? b=some o->h.get? b=some o:=λh x b o e=>x b (.ex o) (by show (GH.get? b).map BO.ex=_;rw [e];rfl);refine ⟨⟨λb=>(GH.get? b).map .ex,s.os,mg,mb,λa o e=>?_,λh x=>T.g.keeps (ov h x),λh x=>T.b.keeps (ov h x),λh x=>T.nolimit.keeps (ov h x),λx v e=>mg_of X T.g e,λx e=>mg_none_of X T.g e,T.builtins,λh x=>c1.keeps (ov h x),λh x=>c2.keeps (ov h x),by rw [e1];rfl,by rw [e2];rfl,?_,[],(λ_ h=>nomatch h),?_⟩,rfl,rfl,λ_=>rfl,⟨⟨?_,(λ_ _ e=>nomatch e),(λ_ _ e=>nomatch e),hg,rfl,⟨#[],n1,True.intro,λ_ _ e=>nomatch e⟩,⟨#[],n2,True.intro,λ_ _ e=>nomatch e⟩,rfl,rfl⟩,F.ns,rfl,?_,l1,l2⟩⟩
 ·show (GH.get? a).map BO.ex=_;rw [X a o e];rfl
 ·obtain ⟨o,ho⟩:=hsm;exact ⟨.ex o,by show (GH.get? sysModules).map BO.ex=_;rw [ho];rfl⟩
 ·obtain ⟨bm,ob,h1,h2,h3,r⟩:=T.bmain;exact ⟨bm,ob,h1,h2,by show (GH.get? bm).map BO.ex=_;rw [h3];rfl,r.1,r.2.1,r.2.2⟩
 ·intro b x e;obtain ⟨o,ho,rfl⟩:=Option.map_eq_some_iff.mp e;exact F.keep _ _ ho
 ·show (GH.get? L).map BO.ex=_;cases q:GH.get? L with
  |none=>rfl
  |some o=>exact absurd (Heap.lt_size q) (Nat.not_lt.mpr F.above)
end
noncomputable def bx (r:PH):PB:=λb=>(r b).map BO.ex
noncomputable def un (F r:PH):PH:=λb=>match r b with|some o=>some o|none=>F b
section
variable {w:World} {B:Bs w} {A:Around} {L:Addr} {m m':Str->Option Value} {F r:PH} {s:Shared} {env:Env} {E:Value->Shared->Prop}
theorem hideC (S:St B L m (un F r) s) (hF:∀ b o,r b=some o->F b=none) (hc:∀ b o,r b=some o->∃ v,o.data=.cell v):∃ h1 h2,St (B.ext (bx r) h1 h2) L m F s:=by
 have run:∀ b o,r b=some o->un F r b=some o:=λb o e=>by unfold un;rw [e]
 have rnone:∀ b,un F r b=none->r b=none∧F b=none:=λb e=>by
  unfold un at e;cases q:r b with
  |none=>rw [q] at e;exact ⟨rfl,e⟩
  |some o=>rw [q] at e;cases e
 have Fun:∀ b o,F b=some o->r b=none∧un F r b=some o:=λb o e=>by
  cases q:r b with
  |none=>exact ⟨rfl,by unfold un;rw [q];exact e⟩
  |some o'=>rw [hF _ _ q] at e;cases e
 have bn:∀ b,r b=none->bx r b=none:=λb e=>by unfold bx;rw [e];rfl
 refine ⟨bn _ (rnone _ S.kp.h1).1,bn _ (rnone _ S.kp.h2).1,⟨⟨λb o e=>?_,λb o e=>S.sub (Fun _ _ e).2,λb o e=>?_,S.kp.gens,S.kp.os,?_,?_,(rnone _ S.kp.h1).2,(rnone _ S.kp.h2).2⟩,S.ns,(rnone _ S.off).2,?_,S.o1,S.o2⟩⟩
 ·change extB B.base (bx r) b=some o at e;cases q:B.base b with
  |some x=>rw [extB_of q] at e;cases e;exact S.ov _ _ q
  |none=>
   rw [extB_new q] at e;unfold bx at e;obtain ⟨x,hx,rfl⟩:=Option.map_eq_some_iff.mp e;exact S.sub (run _ _ hx)
 ·show extB B.base (bx r) b=none;rw [extB_new (S.kp.dis _ _ (Fun _ _ e).2)];exact bn _ (Fun _ _ e).1
 ·obtain ⟨ps,a1,a2,a3⟩:=S.kp.t1;refine ⟨ps,a1,a2,λpos cv e=>?_⟩;obtain ⟨c,oc,vs,t,b1,b2,b3,b4⟩:=a3 pos cv e;refine ⟨c,oc,vs,t,b1,?_,b3,b4⟩;cases q:r c with
  |none=>unfold un at b2;rw [q] at b2;exact b2
  |some x=>rw [run _ _ q] at b2;cases b2;obtain ⟨v,hv⟩:=hc _ _ q;rw [hv] at b3;cases b3
 ·obtain ⟨ps,a1,a2,a3⟩:=S.kp.t2;refine ⟨ps,a1,a2,λpos cv e=>?_⟩;obtain ⟨c,oc,vs,t,b1,b2,b3,b4⟩:=a3 pos cv e;refine ⟨c,oc,vs,t,b1,?_,b3,b4⟩;cases q:r c with
  |none=>unfold un at b2;rw [q] at b2;exact b2
  |some x=>rw [run _ _ q] at b2;cases b2;obtain ⟨v,hv⟩:=hc _ _ q;rw [hv] at b3;cases b3
 ·show extB B.base (bx r) L=none;rw [extB_new S.offb];exact bn _ (rnone _ S.off).1
theorem showC {h1:bx r 321=none} {h2:bx r 293=none} (S:St (B.ext (bx r) h1 h2) L m F s) (nb:∀ b o,r b=some o->B.base b=none):St B L m (un F r) s:=by
 have rb:∀ b,bx r b=none->r b=none:=λb e=>by
  unfold bx at e;cases q:r b with
  |none=>rfl
  |some x=>rw [q] at e;cases e
 have ne:∀ b,r b=none->un F r b=F b:=λb e=>by unfold un;rw [e]
 have eb:∀ b o,r b=some o->extB B.base (bx r) b=some (.ex o):=λb o e=>by rw [extB_new (nb _ _ e)];unfold bx;rw [e];rfl
 have Fr:∀ b o,F b=some o->r b=none:=λb o e=>by
  cases q:r b with
  |none=>rfl
  |some x=>
   have:=S.kp.dis _ _ e;change extB B.base (bx r) b=none at this;rw [eb _ _ q] at this;cases this
 have K:=S.kp.unext
 have hL:r L=none:=by
  cases q:r L with
  |none=>rfl
  |some x=>
   have:=S.offb;change extB B.base (bx r) L=none at this;rw [eb _ _ q] at this;cases this
 have tab:∀ {P q},TabOk F s.heap P q->TabOk (un F r) s.heap P q:=λt=>t.mono (λ_ e=>e) λb o _ e=>(ne _ (Fr _ _ e)).trans e;refine ⟨⟨K.ov,λb o e=>?_,λb o e=>?_,K.gens,K.os,tab K.t1,tab K.t2,(ne _ (rb _ h1)).trans K.h1,(ne _ (rb _ h2)).trans K.h2⟩,S.ns,(ne _ hL).trans S.off,?_,S.o1,S.o2⟩
 ·cases q:r b with
  |none=>rw [ne _ q] at e;exact K.sub _ _ e
  |some x=>
   unfold un at e;rw [q] at e;cases e;exact S.kp.ov _ _ (eb _ _ q)
 ·cases q:r b with
  |none=>rw [ne _ q] at e;exact K.dis _ _ e
  |some x=>exact nb _ _ q
 ·have:=S.offb;change extB B.base (bx r) L=none at this;cases q:B.base L with
  |none=>rfl
  |some x=>rw [extB_of q] at this;cases this
theorem storeB {h1:bx r 321=none} {h2:bx r 293=none} {x:Str} {c:Addr} {v:Value} {o:Obj} {v₀:Option Value} {Q:Unit->Shared->Prop} (S:St (B.ext (bx r) h1 h2) L m F s)
  (nb:∀ b o,r b=some o->B.base b=none) (hcs:∀ b o,r b=some o->∃ v,o.data=.cell v) (ho:r c=some o) (hd:o.data=.cell v₀)
  (h:∀ s' o' h1 h2,o'.data=.cell (some v)->(∀ b x,put r c o' b=some x->B.base b=none)->(∀ b x,put r c o' b=some x->∃ v,x.data=.cell v)->St (B.ext (bx (put r c o')) h1 h2) L m F s'->Q () s')
  (hc:env.cells.lookup x=some c:=by rfl) (hk:env.scope.kind=.function:=by rfl) (hl:env.kindOf x=some .cell:=by rfl):wpAny (model PG w) A (storeName env x v) Q E s:=by
 have S0:=showC S nb;have hn:∀ b o,put r c o b=some o->True:=λ_ _ _=>trivial;refine r_storeCell S0 (by unfold un;rw [ho]) hd (λs' o' d' S'=>?_) hc hk hl
 have eq:put (un F r) c o'=un F (put r c o'):=by
  funext b
  by_cases q:b=c
  ·subst q;rw [put_self];unfold un;rw [put_self]
  ·rw [put_ne q];unfold un;rw [put_ne q]
 rw [eq] at S'
 have nb':∀ b x,put r c o' b=some x->B.base b=none:=λb x e=>by
  by_cases q:b=c
  ·subst q;exact nb _ _ ho
  ·rw [put_ne q] at e;exact nb _ _ e
 have hc':∀ b x,put r c o' b=some x->∃ v,x.data=.cell v:=λb x e=>by
  by_cases q:b=c
  ·subst q;rw [put_self] at e;cases e;exact ⟨_,d'⟩
  ·rw [put_ne q] at e;exact hcs _ _ e
 have hF':∀ b x,put r c o' b=some x->F b=none:=λb x e=>by
  cases q:F b with
  |none=>rfl
  |some y=>
   have h5:r b≠none:=by
    by_cases q2:b=c
    ·subst q2;rw [ho];intro e;cases e
    ·rw [put_ne q2] at e;rw [e];intro e;cases e
   obtain ⟨z,hz⟩:=Option.ne_none_iff_exists'.mp h5;have:=S.kp.dis _ _ q;change extB B.base (bx r) b=none at this;rw [extB_new (nb _ _ hz)] at this;unfold bx at this;rw [hz] at this;cases this
 obtain ⟨h1,h2,S''⟩:=hideC S' hF' hc';exact h s' o' h1 h2 d' nb' hc' S''
end
theorem law_in {P:Arguments->List Stmt->Scope->Prop} {args:Arguments} {body:List Stmt} {scope:Scope} (hb:PG.theDef (Str.ofString "law")=some (args,body,scope)) (h:P args body scope) :
  ∀ a b c,PG.theDef (Str.ofString "law")=some (a,b,c)->P a b c:=λa b c e=>by rw [hb] at e;injection e with e;injection e with e1 e;injection e with e2 e3;subst e1 e2 e3;exact h
section
variable {w:World} {B:Bs w} {A:Around} {L:Addr} {m m':Str->Option Value} {F r:PH} {s:Shared} {env:Env} {E:Value->Shared->Prop}
noncomputable def nm7:List Str:=[Str.ofString "a",Str.ofString "ab",Str.ofString "aba",Str.ofString "b",Str.ofString "ba",Str.ofString "bab",Str.ofString "bb"]
structure CellsL (B:Bs w) (r:PH) (L:Addr) (v1 v2 v3 v4 v5 v6:Option Value):Prop where
 nb:∀ b o,r b=some o->B.base b=none
 cs:∀ b o,r b=some o->∃ v,o.data=.cell v
 c1:∃ o,r (L + 1)=some o∧o.data=.cell v1
 c2:∃ o,r (L + 2)=some o∧o.data=.cell v2
 c3:∃ o,r (L + 3)=some o∧o.data=.cell v3
 c4:∃ o,r (L + 4)=some o∧o.data=.cell v4
 c5:∃ o,r (L + 5)=some o∧o.data=.cell v5
 c6:∃ o,r (L + 6)=some o∧o.data=.cell v6
theorem law_cells {lS:Addr} {vals:List Value} {ns:List Int} {v2 v3 v4 v5 v6:Option Value} {h1:bx r 321=none} {h2:bx r 293=none} {fa:Addr} {cd:Value}:∀ args body scope,PG.theDef (Str.ofString "law")=some (args,body,scope) ->
  St (B.ext (bx r) h1 h2) L m F s->A.handled=none->CellsL B r L (some (.ref lS)) v2 v3 v4 v5 v6->(∃ o,B.base lS=some (.ex o)∧∀ h:Heap,h.get? lS=some o->h.IsList lS vals.toArray)->IntsAre vals ns->ns.length≤63 ->
  ∀ Q:Flow->Shared->Prop,(∀ s' m' F' lC cs,St (B.ext (bx r) h1 h2) L m' F' s'->Sub F F'->IL F' lC cs->cs.length=7->m' (Str.ofString "cells")=some (.ref lC)->wpAny (model PG w) A (execs (body.drop 1) (envX (Str.ofString "law") scope L fa cd (cellsFrom (L + 1) scope.names []))) Q E s') ->
  wpAny (model PG w) A (execs body (envX (Str.ofString "law") scope L fa cd (cellsFrom (L + 1) scope.names []))) Q E s:=by
 refine law_in (by rfl) ?_;intro S hh C hS hI hlen Q h;refine in_envX ?_;intro _;refine gq λ_ z1=>?_;obtain ⟨oS,hS1,hS2⟩:=hS;obtain ⟨o1,c1,d1⟩:=C.c1;refine z1 ?_;have C1:∀ {G:PH} {B':Bs w},Le (B.ext (bx r) h1 h2) B'->CellAt B' G (L + 1) (.ref lS):=λhB=>⟨o1,.inr (hB _ _ (by show extB B.base (bx r) (L + 1)=_;rw [extB_new (C.nb _ _ c1)];unfold bx;rw [c1];rfl)),d1⟩;have hSb:(B.ext (bx r) h1 h2).base lS=some (.ex oS):=extB_of hS1;refine x_listComp ?_;walk_at "J";refine n_list ‹_› λs l0 o0 ol0 n0 _ _ S=>?_;walk_at "J";refine o_enumerate ‹_› (put_self ..) ol0 λs e S OE=>?_;walk_at "J";refine core_L S (OE hh) (by simp) (λi G acc=>Sub (put F l0 o0) G∧∃ ms,IntsAre acc ms∧ms.length=i) ⟨Sub.rfl,[],.nil,rfl⟩ ?_ ?_ ?_ ?_
 ·rintro i G acc ⟨_,ms,a,b⟩;have:=a.length;exact om162 b this
 ·rintro i G acc ⟨a,_⟩ b hb o e;exact a _ _ e
 ·rintro i v G s B' C' mC acc E' hB hi ⟨T,t,y,rfl,hy,hT⟩ ⟨hsub,ms,hacc,hms⟩ S
  obtain ⟨n,tn,rfl⟩:∃ n tn,y=.int n tn:=by
   have:=List.mem_of_getElem? hy;simp only [List.mem_cons,List.not_mem_nil,or_false] at this;rcases this with h|h|h|h|h|h|h <;> exact ⟨_,_,h⟩
  have C1:=C1 (G:=G) hB;walk_at "J";refine a_tuple2 S hh hT λs S=>?_;walk_at "J";refine ifs0 ?_;rw [if_pos rfl];walk_at "J";refine r_listComp ?_;walk_at "J";have hSl:∀ {s'} {m'},St B' C' m' G s'->s'.heap.IsList lS vals.toArray:=λS=>hS2 _ (S.ov _ _ (hB _ _ hSb));refine t_slice3 ‹_› (hSl ‹_›) hI (by decide) (by have:=hI.length;exact n_t (n_e ‹_›) (n_t ‹_› (by decide))) λs D oD vs' ns' ol' hI' hle nD S=>?_;have ln:=hI.length;walk_at "J";refine core_L ‹_› ((O_list ‹_› hh (.inl (put_self ..)) ol').toG) (by exact n_t ‹_› (n_t (n_e ‹_›) (n_t ‹_› (by decide)))) (λi G' acc=>Sub (put G D oD) G'∧∃ ms,IntsAre acc ms∧ms.length=i) ⟨Sub.rfl,[],.nil,rfl⟩ ?_ ?_ ?_ ?_
  ·rintro i G acc ⟨_,ms,a,b⟩;have:=a.length;exact om162 b this
  ·rintro i G acc ⟨a,_⟩ b hb o e;exact a _ _ e
  ·rintro i v G2 s B2 C2 mC2 acc2 E2 hB2 hi2 hv ⟨hsub2,ms2,hacc2,hms2⟩ S;refine gq λ_ z2=>?_;obtain ⟨n2,t2,rfl,_⟩:=hI'.at _ _ hv;refine z2 ?_;walk_at "J";refine ifs0 ?_;rw [if_pos rfl];walk_at "J";refine o_absI ‹_› λs k u S=>?_;walk_at "J";refine o_modI ‹_› (by decide) λs tk S=>?_;walk_at "J";exact ⟨_,_,‹_›,hsub2,ms2 ++ [_],hacc2.append (.cons _ _ .nil),by rw [List.length_append,hms2];rfl⟩
  ·rintro s' D2 C2 mC2 G2 acc2 ⟨hsub2,ms2,hacc2,hms2⟩ hD aD aC hDC nC S';refine fin_valL S' hD aD aC nC hDC λs o2 ol2 nD2 S=>?_;walk_at "J";refine o_sumI ‹_› hh (put_self ..) ol2 hacc2 λs n3 t3 S=>?_;walk_at "J";refine o_addI ‹_› λs tk S=>?_;walk_at "J";exact ⟨_,_,‹_›,hsub.trans ((Sub.put nD).trans (hsub2.trans (Sub.put nD2))),ms ++ [_],hacc.append (.cons _ _ .nil),by rw [List.length_append,hms];rfl⟩
 ·rintro s' D C' mC G acc ⟨hsub,ms,hacc,hms⟩ hD aD aC hDC nC S';refine fin_nameL (Q:=λs'=>wpAny (model PG w) A (execs _ _) Q E s') S' hD aD aC nC hDC ?hk ?hl ?_
  case hk=>rfl
  case hl=>rfl
  intro s o ol nD S;exact h s _ _ D ms S ((Sub.put n0).trans (hsub.trans (Sub.put nD))) ⟨o,acc,put_self ..,ol,hacc⟩ hms (up_hit ..)
end
noncomputable def drawnP (cs:List Int) (i:Nat):List (Str×Str):=tputs [] ((nm7.zip (cs.map λc=>(nm7[(c.fmod 7).toNat]?).getD (Str.ofString ""))).take i)
theorem drawnP_succ {cs:List Int} {i:Nat} {x:Str} {n:Int} (hx:nm7[i]?=some x) (hn:cs[i]?=some n):drawnP cs (i + 1)=tput (drawnP cs i) x ((nm7[(n.fmod 7).toNat]?).getD (Str.ofString "")):=by
 unfold drawnP
 have:(nm7.zip (cs.map λc=>(nm7[(c.fmod 7).toNat]?).getD (Str.ofString "")))[i]?=some (x,(nm7[(n.fmod 7).toNat]?).getD (Str.ofString "")):=by
  rw [List.getElem?_zip_eq_some];exact ⟨hx,by rw [List.getElem?_map,hn];rfl⟩
 rw [List.take_add_one,this];unfold tputs;rw [List.foldl_append];rfl
section
variable {w:World} {B:Bs w} {A:Around} {L:Addr} {m m':Str->Option Value} {F r:PH} {s:Shared} {env:Env} {E:Value->Shared->Prop}
theorem CellsL.put2 {v1 v2 v3 v4 v5 v6 v:Option Value} {o:Obj} (C:CellsL B r L v1 v2 v3 v4 v5 v6) (hd:o.data=.cell v) (nb:∀ b x,put r (L + 2) o b=some x->B.base b=none) (cs:∀ b x,put r (L + 2) o b=some x->∃ v,x.data=.cell v):CellsL B (put r (L + 2) o) L v1 v v3 v4 v5 v6:=
 ⟨nb,cs,by rw [put_ne (by simp)];exact C.c1,⟨o,put_self ..,hd⟩,by rw [put_ne (by simp)];exact C.c3,by rw [put_ne (by simp)];exact C.c4,by rw [put_ne (by simp)];exact C.c5,by rw [put_ne (by simp)];exact C.c6⟩
theorem CellsL.put3 {v1 v2 v3 v4 v5 v6 v:Option Value} {o:Obj} (C:CellsL B r L v1 v2 v3 v4 v5 v6) (hd:o.data=.cell v) (nb:∀ b x,put r (L + 3) o b=some x->B.base b=none) (cs:∀ b x,put r (L + 3) o b=some x->∃ v,x.data=.cell v):CellsL B (put r (L + 3) o) L v1 v2 v v4 v5 v6:=
 ⟨nb,cs,by rw [put_ne (by simp)];exact C.c1,by rw [put_ne (by simp)];exact C.c2,⟨o,put_self ..,hd⟩,by rw [put_ne (by simp)];exact C.c4,by rw [put_ne (by simp)];exact C.c5,by rw [put_ne (by simp)];exact C.c6⟩
theorem CellsL.put4 {v1 v2 v3 v4 v5 v6 v:Option Value} {o:Obj} (C:CellsL B r L v1 v2 v3 v4 v5 v6) (hd:o.data=.cell v) (nb:∀ b x,put r (L + 4) o b=some x->B.base b=none) (cs:∀ b x,put r (L + 4) o b=some x->∃ v,x.data=.cell v):CellsL B (put r (L + 4) o) L v1 v2 v3 v v5 v6:=
 ⟨nb,cs,by rw [put_ne (by simp)];exact C.c1,by rw [put_ne (by simp)];exact C.c2,by rw [put_ne (by simp)];exact C.c3,⟨o,put_self ..,hd⟩,by rw [put_ne (by simp)];exact C.c5,by rw [put_ne (by simp)];exact C.c6⟩
theorem CellsL.put5 {v1 v2 v3 v4 v5 v6 v:Option Value} {o:Obj} (C:CellsL B r L v1 v2 v3 v4 v5 v6) (hd:o.data=.cell v) (nb:∀ b x,put r (L + 5) o b=some x->B.base b=none) (cs:∀ b x,put r (L + 5) o b=some x->∃ v,x.data=.cell v):CellsL B (put r (L + 5) o) L v1 v2 v3 v4 v v6:=
 ⟨nb,cs,by rw [put_ne (by simp)];exact C.c1,by rw [put_ne (by simp)];exact C.c2,by rw [put_ne (by simp)];exact C.c3,by rw [put_ne (by simp)];exact C.c4,⟨o,put_self ..,hd⟩,by rw [put_ne (by simp)];exact C.c6⟩
theorem CellsL.put6 {v1 v2 v3 v4 v5 v6 v:Option Value} {o:Obj} (C:CellsL B r L v1 v2 v3 v4 v5 v6) (hd:o.data=.cell v) (nb:∀ b x,put r (L + 6) o b=some x->B.base b=none) (cs:∀ b x,put r (L + 6) o b=some x->∃ v,x.data=.cell v):CellsL B (put r (L + 6) o) L v1 v2 v3 v4 v5 v:=
 ⟨nb,cs,by rw [put_ne (by simp)];exact C.c1,by rw [put_ne (by simp)];exact C.c2,by rw [put_ne (by simp)];exact C.c3,by rw [put_ne (by simp)];exact C.c4,by rw [put_ne (by simp)];exact C.c5,⟨o,put_self ..,hd⟩⟩
theorem cellAt {h1:bx r 321=none} {h2:bx r 293=none} {c:Addr} {v:Value} {G:PH} {B':Bs w} (nb:∀ b o,r b=some o->B.base b=none) (h:∃ o,r c=some o∧o.data=.cell (some v)) (hB:Le (B.ext (bx r) h1 h2) B'):CellAt B' G c v:=by
 obtain ⟨o,c1,d1⟩:=h;exact ⟨o,.inr (hB _ _ (by show extB B.base (bx r) c=_;rw [extB_new (nb _ _ c1)];unfold bx;rw [c1];rfl)),d1⟩
theorem Le.rfl' {B:Bs w}:Le B B:=λ_ _ e=>e
theorem law_pre {lC:Addr} {cs:List Int} {ths:List Th} {last:Str} {v1:Value} {v2 v3 v4 v5 v6:Option Value} {h1:bx r 321=none} {h2:bx r 293=none} {fa:Addr} {cd:Value}:∀ args body scope,PG.theDef (Str.ofString "law")=some (args,body,scope) ->
  St (B.ext (bx r) h1 h2) L m F s->A.handled=none->Rm A 12->CellsL B r L (some v1) v2 v3 v4 v5 v6->IL F lC cs->cs.length=7->m (Str.ofString "cells")=some (.ref lC) ->
  hangAll root0 (gSeq (rowF [] 0 (nm7.zip cs)) cs 0 (rowF [] 0 (nm7.zip cs)))=some ths->(rowF [] 0 (nm7.zip cs))[((((cs.getD 0 0).fdiv 2940)).fmod 7).toNat]?=some last ->
  ∀ Q:Flow->Shared->Prop,(∀ s' m' F' r' h1' h2' lN dD dG es lT tl,St (B.ext (bx r') h1' h2') L m' F' s'->CellsL B r' L (some v1) (some (.ref lN)) (some (.ref dG)) (some (.ref lT)) v5 v6->Sub F F'->SL F' lN nm7->SD w F' dD (drawnP cs 7)->Things w F' dG (entKvs es) es->es.map Ent.th=ths->(es.map (·.n)).Nodup ->
   (∃ o,F' lT=some o∧OL [] o)->lN≠lT->(∀ e∈es,e.rl≠lT)->m' (Str.ofString "drawn")=some (.ref dD)->m' (Str.ofString "last")=some (.str last tl)->wpAny (model PG w) A (execs (body.drop 5) (envX (Str.ofString "law") scope L fa cd (cellsFrom (L + 1) scope.names []))) Q E s') ->
  wpAny (model PG w) A (execs (body.drop 1) (envX (Str.ofString "law") scope L fa cd (cellsFrom (L + 1) scope.names []))) Q E s:=by
 refine law_in (by rfl) ?_;intro S hh hr C hC hlen hm hg hlast Q h;refine in_envX ?_;intro _;dsimp only [List.drop];obtain ⟨o2,c2,d2⟩:=C.c2;walk_at "J";refine n_list ‹_› λs lN oN olN nN _ _ S=>?_;walk_at "J";refine storeB ‹_› C.nb C.cs c2 d2 λs o2' h1 h2 d2' nb' cs' S=>?_;have C:=C.put2 d2' nb' cs';have hN:SL (put F lN oN) lN nm7:=⟨oN,_,put_self ..,olN,.cons _ _ (.cons _ _ (.cons _ _ (.cons _ _ (.cons _ _ (.cons _ _ (.cons _ _ .nil))))))⟩;have hC:=hC.sub (Sub.put (o:=oN) nN);obtain ⟨G0,hG0⟩:∃ G0,G0=put F lN oN:=⟨_,rfl⟩;have sub0:Sub F G0:=by rw [hG0];exact Sub.put nN
 rw [<-hG0] at S hN hC;clear hG0;have C2:∀ {G:PH} {B':Bs w},Le (B.ext (bx (put r (L + 2) o2')) h1 h2) B'->CellAt B' G (L + 2) (.ref lN):=λhB=>cellAt C.nb C.c2 hB;refine x_dictComp ?_;walk_at "J";obtain ⟨oC,vC,hC1,hC2,hC3⟩:=id hC;have lvC:=hC3.length;refine o_enumerate ‹_› hC1 hC2 λs e S OE=>?_;walk_at "J";refine core_D S (OE hh) (by exact n_t (n_e (Eq.trans ‹_› ‹_›)) (by decide)) (λi G acc=>G0=G∧SKvs acc (drawnP cs i)) ⟨rfl,.nil⟩ ?_ ?_ ?_ ?_
 ·rintro i G acc ⟨_,a⟩;have h1:=a.len;have h2:=tputs_len ((nm7.zip (cs.map λc=>(nm7[(c.fmod 7).toNat]?).getD (Str.ofString ""))).take i) [];have h3:=List.length_take_le i (nm7.zip (cs.map λc=>(nm7[(c.fmod 7).toNat]?).getD (Str.ofString "")));unfold drawnP at h1;rw [List.length_nil] at h2;exact om163 h1 h2 h3
 ·rintro i G acc ⟨rfl,_⟩ b hb o e;exact e
 ·rintro i v G s B' C' mC acc E' hB hi ⟨T,t,y,rfl,hy,hT⟩ ⟨rfl,hacc⟩ S;refine gq λ_ z2=>?_;obtain ⟨n,tn,rfl,hn⟩:=hC3.at _ _ hy;refine z2 ?_;have C2:=C2 (G:=G0) hB;walk_at "J";refine a_tuple2 S hh hT λs S=>?_;walk_at "J";refine ifs0 ?_;rw [if_pos rfl];walk_at "J";refine gq λ_ z3=>?_;obtain ⟨x,hx⟩:∃ x,nm7[i]?=some x:=⟨_,List.getElem?_eq_getElem (by show i < 7;exact Nat.lt_of_lt_of_eq ‹_› (Eq.trans ‹_› ‹_›))⟩;obtain ⟨z,hz⟩:∃ z,nm7[(n.fmod 7).toNat]?=some z:=⟨_,List.getElem?_eq_getElem (by show (n.fmod 7).toNat < 7;have:=Int.fmod_lt_of_pos n (show (0:Int) < 7 by decide);exact om164 this)⟩;refine z3 ?_;refine t_sl ‹_› hN (by exact om165 hlen lvC hi) (by exact om166 hlen lvC hi) (by rw [Int.toNat_natCast];exact hx) λu=>?_;walk_at "J";refine o_modI ‹_› (by decide) λs tk S=>?_;have p1:=Int.fmod_nonneg_of_pos n (show (0:Int) < 7 by decide);have p2:=Int.fmod_lt_of_pos n (show (0:Int) < 7 by decide);walk_at "J";refine t_sl ‹_› hN p1 (by exact om167 p1 p2) hz λu'=>?_;walk_at "J";refine ⟨_,_,x,u,rfl,‹_›,rfl,?_⟩;rw [drawnP_succ hx hn,hz];exact skvs_stored hacc _ _ _
 ·rintro s' D C' mC G acc ⟨rfl,hacc⟩ hD aD aC hDC nC S';refine fin_nameD (Q:=λs'=>wpAny (model PG w) A (execs _ _) Q E s') S' hD aD aC nC hDC ?hk ?hl ?_
  case hk=>rfl
  case hl=>rfl
  intro s oD olD nD S;have hDs:SD w (put G0 D oD) D (drawnP cs 7):=⟨oD,acc,put_self ..,olD,by rw [<-hlen,<-lvC];exact hacc⟩;have hN:=hN.sub (Sub.put (o:=oD) nD);have hC:=hC.sub (Sub.put (o:=oD) nD);have sub1:=sub0.trans (Sub.put (o:=oD) nD);have C2:=C2 (G:=put G0 D oD) Le.rfl';walk_at "J";refine St.call ‹_› λrr K₁ back=>?_;refine r_defCall (codeAny_mono (sp_grown K₁ (hr.le (by decide)) hh hN hC rfl hlen hg hlast) λr s' hR=>?_);refine gq λ_ z5=>?_;obtain ⟨T,d,es,g',tk,rfl,hT,K₂,Gr⟩:=hR;refine z5 ?_;have S:=back _ _ K₂;walk_at "J";refine a_tuple2 S hh hT λs S=>?_;have sub2:=sub1.trans Gr.sub;obtain ⟨o3,c3,d3⟩:=C.c3;walk_at "J";refine storeB ‹_› C.nb C.cs c3 d3 λs o3' h1 h2 d3' nb' cs' S=>?_;have C:=C.put3 d3' nb' cs';walk_at "J";refine n_list ‹_› λs lT oT olT nT _ _ S=>?_;walk_at "J";obtain ⟨o4,c4,d4⟩:=C.c4;refine storeB ‹_› C.nb C.cs c4 d4 λs o4' h1 h2 d4' nb' cs' S=>?_;have C:=C.put4 d4' nb' cs';have sub3:=Sub.put (o:=oT) nT
  have q1:lN≠lT:=by
   obtain ⟨o,vs,e,_⟩:=hN.sub Gr.sub;exact ne_none e nT
  have q2:∀ e∈es,e.rl≠lT:=λe he=>by
   obtain ⟨fd,od,orow,oc1,oc2,vs,mA,f1,f2,c1,c2,t,t',X⟩:=Gr.T.th e he;exact ne_none X.rl_ nT
  exact h s _ _ _ h1 h2 lN D d es lT tk S C (sub2.trans sub3) ((hN.sub Gr.sub).sub sub3) ((hDs.sub Gr.sub).sub sub3) (Gr.T.chg sub3) Gr.e Gr.nd ⟨oT,put_self ..,olT⟩ q1 q2 (by walk_at "J.m") (by walk_at "J.m")
end
theorem law_for {args:Arguments} {body:List Stmt} {scope:Scope} {t i:Expr} {b o:List Stmt} {p:Pos} {P:List Stmt->Scope->Expr->Expr->List Stmt->Prop} (hb:PG.theDef (Str.ofString "law")=some (args,body,scope)) (hf:body[5]?=some (.For t i b o p))
  (h:P body scope t i b):∀ a c d,PG.theDef (Str.ofString "law")=some (a,c,d)->∀ t i b o p,c[5]?=some (.For t i b o p)->P c d t i b:=λa c d e t' i' b' o' p' e'=>by
 rw [hb] at e;injection e with e;injection e with e1 e;injection e with e2 e3;subst e1 e2 e3
 rw [hf] at e';injection e' with e';injection e' with e1 e2 e3 e4 e5;subst e1 e2 e3 e4 e5;exact h
structure TurnA (tbl:List (Str×Str)) (rds:List (List Str)):Prop where
 hks:∀ ss:List Str,ss.Perm (tbl.map (·.1))->sortedS ss=true->ss=nm7
 len:tbl.length=7
 hin:∀ x∈nm7,∃ y∈nm7,tbl.lookup x=some y
 hdup:∀ x∈nm7,dups (roadP (tget tbl) 7 x)≠[]
 hsuc:∀ p∈addsP tbl,p.2.2=[]∨∃ y,p.2.2=[y]∧y∈(addsP tbl).map (·.1)
 live:addsP tbl≠[]∧¬ Dead (addsP tbl)
 laps:lapsP 7 (addsP tbl,ready0 (addsP tbl))=some rds
 rlen:rds.length=7
 short:∀ r∈rds,r.length < 60
 flat:rds.flatten.length≤400
 due:∀ (i:Nat) r,rds[i]?=some r->∀ ss:List Str,ss.Perm r->sortedS ss=true->(dueP (tget tbl) 7 nm7)[i]?=some ss
 ring:∀ c,Ring (addsP tbl) c->c.length≤100∧c.head?=c.getLast?∧(∀ x∈c,x∈nm7)∧c.dropLast.map (tget tbl)=c.drop 1
section
variable {w:World} {B:Bs w} {A:Around} {L:Addr} {m m':Str->Option Value} {F r:PH} {s:Shared} {env:Env} {E:Value->Shared->Prop}
theorem CellAt.up {g g':PH} {c:Addr} {v:Value} (h:CellAt B g c v) (k:Sub g g'):CellAt B g' c v:=let ⟨o,h1,h2⟩:=h;⟨o,h1.imp (k _ _) id,h2⟩
theorem CellAt.upB {g:PH} {c:Addr} {v:Value} {B':Bs w} (h:CellAt B g c v) (k:Le B B'):CellAt B' g c v:=let ⟨o,h1,h2⟩:=h;⟨o,h1.imp id (k _ _),h2⟩
theorem law_turn1 {fl:List Env} {dS:Addr} {tbl:List (Str×Str)} {rds:List (List Str)} {fa:Addr} {cd:Value}:∀ args body scope,PG.theDef (Str.ofString "law")=some (args,body,scope)->∀ t i b o p,body[5]?=some (.For t i b o p) ->
  St B L m F s->A.handled=none->Rm A 20->A.units < 8000->A.frames=some (envX (Str.ofString "law") scope L fa cd (cellsFrom (L + 1) scope.names []) :: fl)->FrOk B fl->CellAt B F (L + 5) (.ref dS)->SD w F dS tbl->TurnA tbl rds ->
  ∀ Q:Flow->Shared->Prop,(∀ s' m' F' lR lF v,St B L m' F' s'->Sub F F'->LL F' lR rds->SL F' lF (firstsP (tget tbl) 7 nm7)->m' (Str.ofString "rounds")=some (.ref lR)->m' (Str.ofString "firsts")=some (.ref lF) ->
   (∀ x,x≠Str.ofString "due"->x≠Str.ofString "firsts"->x≠Str.ofString "rounds"->x≠Str.ofString "ring"->m' x=m x)->v=0 ->
   wpAny (model PG w) A (execs (b.drop 4) (envX (Str.ofString "law") scope L fa cd (cellsFrom (L + 1) scope.names []))) Q E s') ->
  wpAny (model PG w) A (execs b (envX (Str.ofString "law") scope L fa cd (cellsFrom (L + 1) scope.names []))) Q E s:=by
 refine law_for (by rfl) (by rfl) ?_;intro S hh hr hu hF hfl hC hD H Q h;refine in_envX ?_;intro _;refine S.call λrr K₁ back=>?_;walk_at "J";refine r_defCall (codeAny_mono (sp_due K₁ (hr.le (by decide)) hh hD H.hks (H.hin) (by rw [H.len];decide) (by decide) (by rw [H.len];exact H.hdup)) λr s' hR=>?_);obtain ⟨U,lD,lF,g',rfl,hU,K₂,sub1,hlD,hlF,nD,nF⟩:=hR;have S:=back _ _ K₂;rw [H.len] at hlD hlF;walk_at "J";refine a_tuple2 S hh hU λs S=>?_;have hC:=hC.up sub1;have hD:=hD.sub sub1;walk_at "J";obtain ⟨B',fr',K₃,back⟩:=callF' hF hfl ‹_›;refine r_defCall (codeAny_mono (sp_came K₃ (hr.le (by decide)) hh hF fr' hD (by rw [H.len];decide) H.hsuc (.inr H.live) (by rw [H.len];exact H.laps)) λr s' hR=>?_);refine gq λ_ z4=>?_;obtain ⟨U2,lR,lr,ring,g2,rfl,hU2,K₄,sub2,hlR,hlr,nR,nr,hring⟩:=hR;have hring:=(hring.resolve_left λh=>h.2.elim H.live.1 H.live.2);obtain ⟨rl,rh,rin,rmap⟩:=H.ring _ hring;refine z4 ?_;have S:=back _ _ K₄;walk_at "J";refine a_tuple2 S hh hU2 λs S=>?_;have hC:=hC.up sub2;have hD:=hD.sub sub2;have hlD:=hlD.sub sub2;have hlF:=hlF.sub sub2;walk_at "J";refine r_listComp ?_;walk_at "J";obtain ⟨oR,vR,hR1,hR2,hR3,hR4⟩:=id hlR;have lR7:vR.length=7:=hR3.trans H.rlen;refine core_L ‹_› ((O_list ‹_› hh (.inl hR1) hR2).toG) (by exact om168 hR3 lR7) (λi G acc=>And3 (Sub g2 G) (acc.length=i) (∀ j < i,Ex2 λa d=>And4 (acc[j]?=some (.ref a)) ((dueP (tget tbl) 7 nm7)[j]?=some d) (SL G a d) (g2 a=none))) ⟨Sub.rfl,rfl,λj hj=>absurd hj (Nat.not_lt_zero _)⟩ ?_ ?_ ?_ ?_
 ·rintro i G acc ⟨_,h,_⟩;exact n_e ‹_›
 ·rintro i G acc ⟨h,_⟩ b hb o e;exact h _ _ e
 ·rintro i v G s B'' C' mC acc E' hB hi hv ⟨hsub,hal,hacc⟩ S;refine gq λ_ z6=>?_;obtain ⟨rd,hrd⟩:∃ rd,rds[i]?=some rd:=⟨_,List.getElem?_eq_getElem (by exact Nat.lt_of_lt_of_eq ‹_› ‹_›)⟩;obtain ⟨a,ha,hsl,_⟩:=hR4 i rd hrd;rw [ha] at hv;cases hv;obtain ⟨oa,va,a1,a2,a3⟩:=id hsl;refine z6 ?_;have a1:=hsub _ _ a1;have lva:=a3.len_eq;have hsh:=H.short rd (List.mem_of_getElem? hrd);walk_at "J";refine ifs0 ?_;rw [if_pos rfl];walk_at "J";refine o_sorted ‹_› (a2.isList (St.sub ‹_› a1)) a3 (by exact om169 lva hsh) λs D us ss' e S hD2 aD hus hp hsd=>?_;have hd:=H.due i rd hrd ss' hp hsd;obtain ⟨o,ol,S,nD⟩:=takeL S hD2 aD;walk_at "J";refine ⟨_,_,S,hsub.trans (Sub.put nD),by rw [List.length_append,hal];rfl,λj hj=>?_⟩
  by_cases q:j=i
  ·subst q;exact ⟨D,ss',by rw [List.getElem?_append_right (by exact n_e ‹_›),hal,Nat.sub_self];rfl,hd,⟨o,us,put_self ..,ol,hus⟩,none_sub nD hsub⟩
  ·obtain ⟨a',d',q1,q2,q3,q4⟩:=hacc j (by exact Nat.lt_of_le_of_ne (Nat.le_of_lt_succ ‹_›) ‹_›);exact ⟨a',d',by rw [List.getElem?_append_left (by exact Nat.lt_of_lt_of_eq (Nat.lt_of_le_of_ne (Nat.le_of_lt_succ ‹_›) ‹_›) (Eq.symm ‹_›))];exact q1,q2,q3.sub (Sub.put nD),q4⟩
 rintro s' D C' mC G acc ⟨hsub,hal,hacc⟩ hD2 aD aC hDC nC S';refine fin_valL S' hD2 aD aC nC hDC λs oD olD nD S=>?_
 have hS:LL (put G D oD) D (dueP (tget tbl) 7 nm7):=by
  refine ⟨oD,acc,put_self ..,olD,by rw [hal,lR7];simp [dueP],λj d hj=>?_⟩
  have hj7:j < vR.length:=by
   obtain ⟨q,_⟩:=List.getElem?_eq_some_iff.mp hj;have:(dueP (tget tbl) 7 nm7).length=7:=by simp [dueP]
   exact om170 hR3 lR7 q this
  obtain ⟨a',d',q1,q2,q3,q4⟩:=hacc j hj7;rw [hj] at q2;cases q2;refine ⟨a',q1,q3.sub (Sub.put nD),?_⟩;rintro rfl;obtain ⟨o,vs,e1,_⟩:=q3;rw [nD] at e1;cases e1
 have sub3:=hsub.trans (Sub.put (o:=oD) nD);have hlD:=hlD.sub sub3;walk_at "J";refine o_neLL ‹_› hS hlD (by exact Nat.lt_of_lt_of_le ‹_› (by decide)) ?_;rw [decide_eq_false (by simp)];walk_at "J";have hlr:=hlr.sub sub3;have hD:=hD.sub sub3;have hC:=hC.up sub3
 have hcne:ring≠[]:=by
  obtain ⟨q,x,e,_⟩:=hring;rw [e];simp
 refine n_list ‹_› λs l0 o0 ol0 n0 _ _ S=>?_;walk_at "J";refine o_eqSL ‹_› (hlr.sub (Sub.put n0)) ⟨o0,[],put_self ..,ol0,.nil⟩ (by exact Nat.lt_of_lt_of_le ‹_› (by decide)) ?_;rw [decide_eq_false hcne];have hlr:=hlr.sub (Sub.put (o:=o0) n0);have hD:=hD.sub (Sub.put (o:=o0) n0);have hC:=hC.up (Sub.put (o:=o0) n0);walk_at "J";refine if_f (by decide) ?_;walk_at "J";refine gq λ_ z11=>?_;obtain ⟨a,ha⟩:∃ a,ring.head?=some a:=by cases ring with|nil=>exact absurd rfl hcne|cons a _=>exact ⟨a,rfl⟩
 have hla:ring.getLast?=some a:=rh.symm.trans ha;obtain ⟨orr,vr,e1,e2,e3⟩:=id hlr;refine z11 ?_;have lvr:=e3.len_eq;refine t_sl ‹_› hlr (by decide) (by decide) (by rw [List.head?_eq_getElem?] at ha;exact ha) λu=>?_;walk_at "J";refine o_negI ‹_› λs tk S=>?_;have hl0:0 < ring.length:=List.length_pos_iff.mpr hcne;obtain ⟨ta,hta⟩:=e3.at (j:=ring.length - 1) (y:=a) (by rw [<-List.getLast?_eq_getElem?];exact hla);refine t_itemNeg (v:=.str a ta) (e2.isList (St.sub ‹_› e1)) (by decide) (by exact om171 rl lvr hl0) (by decide) (by rw [lvr,show ((-1:Int) + (ring.length:Int)).toNat=ring.length - 1 from by exact om172 rl lvr hl0];exact hta) ?_;walk_at "J";refine o_neS ?_;walk_at "J";refine if_f (by simp) ?_;walk_at "J";refine r_listComp ?_;walk_at "J";refine o_negI ‹_› λs tk S=>?_;walk_at "J";refine t_slicePre ‹_› (e2.isList (St.sub ‹_› e1)) e3 (by exact n_t (n_e ‹_›) (n_t ‹_› (by decide))) rfl λs D1 o1 v1 ol1 hv1 n1 S=>?_;have lv1:=hv1.len_eq;have ld:=List.length_dropLast (xs:=ring);walk_at "J";refine core_L S ((O_list ‹_› hh (.inl (put_self ..)) ol1).toG) (by exact om173 rl lvr hl0 lv1 ld) (λi G' acc=>Sub (put _ D1 o1) G'∧StrsAre acc ((ring.dropLast.take i).map (tget tbl))) ⟨Sub.rfl,.nil⟩ ?_ ?_ ?_ ?_
 ·rintro i G acc ⟨_,h⟩;rw [h.len_eq,List.length_map];exact List.length_take_le ..
 ·rintro i G acc ⟨h,_⟩ b hb o e;exact h _ _ e
 ·rintro i v G s B'' C' mC acc E' hB hi hv ⟨hsub,hacc⟩ S;refine gq λ_ z12=>?_;obtain ⟨y,ty,rfl,hy⟩:=hv1.item _ _ hv;have hy7:y∈nm7:=rin y (List.dropLast_subset _ (List.mem_of_getElem? hy));obtain ⟨z,_,hz⟩:=H.hin y hy7;refine z12 ?_;have hC:=(hC.up ((Sub.put n1).trans hsub)).upB hB;walk_at "J";refine ifs0 ?_;rw [if_pos rfl];walk_at "J";refine t_sd ‹_› ((hD.sub (Sub.put n1)).sub hsub) hz λs u S=>?_;walk_at "J";refine ⟨_,_,‹_›,hsub,?_⟩;have htk:ring.dropLast.take (i + 1)=ring.dropLast.take i ++ [y]:=by rw [List.take_add_one,hy];rfl
  rw [htk,List.map_append];have:tget tbl y=z:=tget_of hz;refine hacc.append' ?_;rw [List.map_singleton,this];exact .cons _ _ .nil
 rintro s' D2 C2 mC G2 acc2 ⟨hsub2,hacc2⟩ hD22 aD2 aC2 hDC2 nC2 S';refine fin_valL S' hD22 aD2 aC2 nC2 hDC2 λs oD2 olD2 nD2 S=>?_;rw [lv1,List.take_length,rmap] at hacc2;have sub4:=(Sub.put (o:=o1) n1).trans (hsub2.trans (Sub.put (o:=oD2) nD2));have hlr:=hlr.sub sub4;have e1:=sub4 _ _ e1;walk_at "J";refine t_sliceFrom ‹_› (e2.isList (St.sub ‹_› e1)) (by decide) (by exact n_t (n_e ‹_›) (n_t ‹_› (by decide))) λs D3 o3 ol3 n3 S=>?_;walk_at "J";refine o_neSL ‹_› (SL.sub ⟨oD2,acc2,put_self ..,olD2,hacc2⟩ (Sub.put n3)) ⟨o3,_,put_self ..,ol3,strs_drop e3 1⟩ (by exact Nat.lt_of_lt_of_le ‹_› (by decide)) ?_;rw [decide_eq_false (by simp)];walk_at "J";refine if_f (by decide) ?_;refine wpAny_allTrue_Or_nil ?_;refine x_false ?_;refine x_nil ?_
 with_reducible refine (by assumption:∀ (r:_) (s:Shared),_->_) _ _ ?_
 have sub5:=sub4.trans (Sub.put (o:=o3) n3);have sub6:=sub3.trans ((Sub.put (o:=o0) n0).trans sub5);refine h _ _ _ lR lF 0 ‹_› (sub1.trans (sub2.trans sub6)) (hlR.sub sub6) (hlF.sub sub6) (by walk_at "J.m") (by walk_at "J.m") (λx h1 h2 h3 h4=>?_) rfl;exact up_miss h4 (up_miss h3 (up_miss h2 (up_miss h1 rfl)))
end
noncomputable def pthT (ths:List Th) (x:Str):Str:=((ths.find? λth=>th.1=x).map (·.2.1)).getD (Str.ofString "")
theorem ent_path {es:List Ent} {ths:List Th} {x:Str} (nd:(es.map (·.n)).Nodup) (he:es.map Ent.th=ths) (hx:x∈ths.map (·.1)):∃ e∈es,e.n=x∧e.p=pthT ths x∧valueAt (entKvs es) x=some (.ref e.f):=by
 subst he;have hx':x∈es.map (·.n):=by rw [List.map_map] at hx;exact hx
 have h1:(es.find? λe=>e.n=x).isSome=true:=by
  rw [List.find?_isSome];obtain ⟨e,he,rfl⟩:=List.mem_map.mp hx';exact ⟨e,he,by simp⟩
 obtain ⟨e,he⟩:=Option.isSome_iff_exists.mp h1;have hn:e.n=x:=by simpa using List.find?_some he
 refine ⟨e,List.mem_of_find?_eq_some he,hn,?_,?_⟩
 ·unfold pthT;rw [List.find?_map,show ((λth:Th=>decide (th.1=x)) ∘ Ent.th)=(λe=>decide (e.n=x)) from rfl,he];rfl
 ·rw [<-hn];exact valueAt_ent nd (List.mem_of_find?_eq_some he)
theorem qv2 {w:World} {A:Around} {s:Shared} {α β:Type} {t:Sem α} {u:α->Sem β} {E E':Value->Shared->Prop} {P:β->Shared->Prop} (h:∀ R:β->Shared->Prop,(∀ r s',P r s'->R r s')->wpAny (model PG w) A t (λx s=>wpAny (model PG w) A (u x) R E' s) E s):wpAny (model PG w) A t (λx s=>wpAny (model PG w) A (u x) P E' s) E s:=h P λ_ _ h=>h
structure TurnB (tbl:List (Str×Str)) (rds:List (List Str)) (ths:List Th) (en:Str):Prop where
 hca:∀ x∈rds.flatten,∃ y,tbl.lookup x=some y
 hg:hangAll root0 (cycSeq (tget tbl) rds.flatten nm7 (Str.ofString "") ++ rds.flatten.reverse.map λx=>(x,tget tbl x))=some ths
 hen:cycEnd (tget tbl) rds.flatten nm7 (Str.ofString "")=en
 mem:∀ x∈nm7,x∈ths.map (·.1)
 plen:∀ x∈nm7,(pthT ths x).length≤900∧Txt.startswith (pthT ths x) slash=true
 enm:en∈nm7
 firsts:∀ f∈firstsP (tget tbl) 7 nm7,f∈nm7
 common:∀ (i:Nat) x f,nm7[i]?=some x->(firstsP (tget tbl) 7 nm7)[i]?=some f->cpP (pthT ths x) (pthT ths en)=pthT ths f ∧
  ∀ i < (minP (compsP (pthT ths x)) (compsP (pthT ths en))).length,(minP (compsP (pthT ths x)) (compsP (pthT ths en))).take i=(maxP (compsP (pthT ths x)) (compsP (pthT ths en))).take i->i < (maxP (compsP (pthT ths x)) (compsP (pthT ths en))).length
section
variable {w:World} {B:Bs w} {A:Around} {L:Addr} {m m':Str->Option Value} {F r:PH} {s:Shared} {env:Env} {E:Value->Shared->Prop}
theorem things_get {G:PH} {d:Addr} {es:List Ent} {ths:List Th} {x:Str} (T:Things w G d (entKvs es) es) (nd:(es.map (·.n)).Nodup) (he:es.map Ent.th=ths) (hx:x∈ths.map (·.1)) :
  ∃ f,(∀ {value sl:Expr} {t:Tok} {B:Bs w} {A:Around} {L:Addr} {m:Str->Option Value} {g:PH} {s:Shared} {Q:Value->Shared->Prop} {E:Value->Shared->Prop},Sub G g->St B L m g s->(∀ s',St B L m g s'->Q (.ref f) s') ->
   (subscripted sl false (.ref d) (.str x t)=operate [.ref d,.str x t] (getItem (.ref d) (.str x t)))->wpAny (model PG w) A (subscriptTail value sl (.ref d) (.str x t)) Q E s) ∧
   (∀ {B:Bs w} {A:Around} {L:Addr} {m:Str->Option Value} {g:PH} {s:Shared} {ex:Bool} {Q:Value->Shared->Prop} {E:Value->Shared->Prop},Sub G g->St B L m g s->(∀ s' t,St B L m g s'->Q (.str (pthT ths x) t) s')->wpAny (model PG w) A (getAttr (.ref f) sPath ex) Q E s):=by
 refine gq λ_ z1=>?_;obtain ⟨e,he1,hn,hp,hv⟩:=ent_path nd he hx;refine z1 ?_;refine ⟨e.f,λ{value sl t B A L m g s Q E} hs S h hsub=>?_,λ{B A L m g s ex Q E} hs S h=>?_⟩
 ·obtain ⟨od,h1,h2⟩:=T.od;exact t_dict S (h2.dictOf (S.sub (hs _ _ h1))) hv (λs' S'=>h _ S') hsub
 ·obtain ⟨fd,od,orow,oc1,oc2,vs,mA,f1,f2,c1,c2,t,t',X⟩:=T.th e he1;rw [hp] at X;exact fa_get S (hs _ _ X.f_) (hs _ _ X.d_) X.oa_ X.path_ fn_path rfl λs' S'=>h _ _ S'
theorem law_turn2 {lR lF lN dS:Addr} {tbl:List (Str×Str)} {rds:List (List Str)} {ths:List Th} {en:Str} {fa:Addr} {cd:Value} {v1 v3 v4 v6:Option Value} {h1:bx r 321=none} {h2:bx r 293=none}:∀ args body scope,PG.theDef (Str.ofString "law")=some (args,body,scope)->∀ t i b o p,body[5]?=some (.For t i b o p) ->
  St (B.ext (bx r) h1 h2) L m F s->A.handled=none->Rm A 20->A.units < 8000->CellsL B r L v1 (some (.ref lN)) v3 v4 (some (.ref dS)) v6->SD w F dS tbl->LL F lR rds->SL F lN nm7->SL F lF (firstsP (tget tbl) 7 nm7)->TurnA tbl rds->TurnB tbl rds ths en->m (Str.ofString "rounds")=some (.ref lR)->m (Str.ofString "firsts")=some (.ref lF) ->
  ∀ Q:Flow->Shared->Prop,(∀ s' m' F' r' h1' h2' dT es te,St (B.ext (bx r') h1' h2') L m' F' s'->CellsL B r' L v1 (some (.ref lN)) v3 v4 (some (.ref dS)) (some (.ref dT))->Sub F F'->Things w F' dT (entKvs es) es->es.map Ent.th=ths->(es.map (·.n)).Nodup->(∀ e∈es,F e.rl=none)->m' (Str.ofString "end")=some (.str en te) ->
   (∀ x,x≠Str.ofString "end"->x≠Str.ofString "name"->x≠Str.ofString "first"->m' x=m x) ->
   wpAny (model PG w) A (execs (b.drop 6) (envX (Str.ofString "law") scope L fa cd (cellsFrom (L + 1) scope.names []))) Q E s') ->
  wpAny (model PG w) A (execs (b.drop 4) (envX (Str.ofString "law") scope L fa cd (cellsFrom (L + 1) scope.names []))) Q E s:=by
 refine law_for (by rfl) (by rfl) ?_;intro S hh hr hu C hD hR hN hF HA HB m1 m2 Q h;refine in_envX ?_;intro _;dsimp only [List.drop];have C5:CellAt (B.ext (bx r) h1 h2) F (L + 5) (.ref dS):=cellAt C.nb C.c5 Le.rfl';walk_at "J";refine r_flat (B:=B.ext (bx r) h1 h2) (rds:=rds) (lo:=lR) (m:=m) (g:=F) (λ_=>true) hh HA.flat ?_ ?_ ?_
 ·exact r_local S m1 ⟨rfl,hR,S⟩
 ·intro B' C' G m s y t E hB hsub S;walk_at "J";refine ifs0 ?_;rw [if_pos rfl];walk_at "J";exact ⟨rfl,_,_,rfl,‹_›⟩
 intro s lC oC hC nC S;rw [List.filter_eq_self.mpr (λ_ _=>rfl)] at hC;walk_at "J";refine St.call ‹_› λrr K₁ back=>?_;refine r_defCall (codeAny_mono (sp_laid K₁ (hr.le (by decide)) hh (hD.sub (Sub.put nC)) hC HA.hks (λx hx=>let ⟨y,_,e⟩:=HA.hin x hx;⟨y,e⟩) HB.hca (by rw [HA.len];decide) (by have:=HA.flat;exact n_t ‹_› (by decide)) HB.hg) λr s' hR=>?_);obtain ⟨T,dT,es,g',tk,rfl,hT,K₂,Gr⟩:=hR;rw [HB.hen] at hT;have S:=back _ _ K₂;walk_at "J";refine a_tuple2 S hh hT λs S=>?_;have sub1:=(Sub.put (o:=oC) nC).trans Gr.sub;have TT:=Gr.T;have he:=Gr.e;have hnd:=Gr.nd;have hnrl:∀ e∈es,F e.rl=none:=λe he=>none_sub (Gr.nrl e he) (Sub.put nC);obtain ⟨o6,c6,d6⟩:=C.c6;walk_at "J";refine storeB ‹_› C.nb C.cs c6 d6 λs o6' h1 h2 d6' nb' cs' S=>?_;have C:=C.put6 d6' nb' cs';have hN:=hN.sub sub1;have hF:=hF.sub sub1;have C2:CellAt (B.ext (bx (put r (L + 6) o6')) h1 h2) g' (L + 2) (.ref lN):=cellAt C.nb C.c2 Le.rfl';have C6:∀ {G:PH} {B':Bs w},Le (B.ext (bx (put r (L + 6) o6')) h1 h2) B'->CellAt B' G (L + 6) (.ref dT):=λhB=>cellAt C.nb C.c6 hB;clear K₁ K₂ back Gr hC;walk_at "J";refine gq λ_ z4=>?_;obtain ⟨oN,vN,hN1,hN2,hN3⟩:=id hN;obtain ⟨oF,vF,hF1,hF2,hF3⟩:=id hF;refine z4 ?_;have lN:=hN3.len_eq;have lF':=hF3.len_eq;have lf7:(firstsP (tget tbl) 7 nm7).length=7:=by simp [firstsP,nm7]
 refine o_zip ‹_› hN1 hN2 hF1 hF2 (by rw [lN,lF',lf7];rfl) λs e S OE=>?_;walk_at "J"
 refine for_G (OE hh) (λi m' G=>Sub g' G∧m' (Str.ofString "end")=some (.str en tk)∧∀ x,x≠Str.ofString "end"->x≠Str.ofString "name"->x≠Str.ofString "first"->m' x=m x) (λ_ _ _=>False)
  ⟨Sub.rfl,up_hit,λx a1 a2 a3=>up_miss a1 rfl⟩ (λi m' G hI b hb o e=>hI.1 _ _ e) ?_ ?_ (λ_ _ _ _ h=>h.elim)
 ·rintro i v m' G s₁ B' E₁ hB hi ⟨T,x,y,rfl,hx,hy,hT⟩ ⟨hsub,hm1,hm2⟩ S;refine gq λ_ z5=>?_;obtain ⟨x,tx,rfl,hx'⟩:=hN3.item _ _ hx;obtain ⟨f,tf,rfl,hf'⟩:=hF3.item _ _ hy;have hx7:x∈nm7:=List.mem_of_getElem? hx';have hf7:f∈nm7:=HB.firsts f (List.mem_of_getElem? hf');obtain ⟨hcp,hcc⟩:=HB.common i x f hx' hf';obtain ⟨fx,gx1,gx2⟩:=things_get TT hnd he (HB.mem x hx7);obtain ⟨fe,ge1,ge2⟩:=things_get TT hnd he (HB.mem en HB.enm);obtain ⟨ff,gf1,gf2⟩:=things_get TT hnd he (HB.mem f hf7);refine z5 ?_;have C6':=C6 (G:=G) hB;intro QQ fin;walk_at "J";refine a_tuple2 S hh hT λs S=>?_;walk_at "J";refine gx1 hsub ‹_› (λs S=>?_) (by with_unfolding_all rfl);walk_at "J";refine gx2 hsub ‹_› λs t1 S=>?_;walk_at "J";refine ge1 hsub ‹_› (λs S=>?_) (by with_unfolding_all rfl);walk_at "J";refine ge2 hsub ‹_› λs t2 S=>?_;walk_at "J";refine n_list ‹_› λs lp op olp np _ _ S=>?_;walk_at "J";refine St.call ‹_› λrr K₁ back=>?_;refine r_defCall (codeAny_mono (sp_common K₁ (hr.le (by decide)) hh ⟨op,_,put_self ..,olp,.cons _ _ (.cons _ _ .nil)⟩ (HB.plen x hx7).2 (HB.plen en HB.enm).2 (HB.plen x hx7).1 (HB.plen en HB.enm).1 hcc) λr s' hR=>?_);obtain ⟨G2,t3,rfl,K₂,sub2⟩:=hR;have S:=back _ _ K₂;rw [hcp];dsimp only;have sub3:=hsub.trans ((Sub.put (o:=op) np).trans sub2);have C6':=C6 (G:=G2) hB;walk_at "J";refine gf1 sub3 ‹_› (λs S=>?_) (by with_unfolding_all rfl);walk_at "J";refine gf2 sub3 ‹_› λs t4 S=>?_;walk_at "J";refine o_neS ?_;rw [decide_eq_false (by simp)];walk_at "J";exact ⟨_,_,‹_›,sub3,by walk_at "J.m",λx a1 a2 a3=>up_miss a3 (up_miss a2 (hm2 x a1 a2 a3))⟩
 ·rintro m' G s₁ E₁ ⟨hsub,hm1,hm2⟩ S;intro _ hR;refine x_nil ?_;refine hR _ _ ?_
  with_reducible refine (by assumption:∀ (r:_) (s:Shared),_->_) _ _ ?_
  exact h s₁ m' G _ h1 h2 dT es tk S C (sub1.trans hsub) (TT.chg hsub) he hnd hnrl hm1 hm2
end
noncomputable def treeP (ths:List Th) (i:Nat):List (Str×Str):=tputs [] ((nm7.take i).map λx=>(x,bnF (dnF (pthT ths x))))
structure TurnC (ths:List Th) (rds2:List (List Str)):Prop where
 len:(treeP ths 7).length=7
 hsuc:∀ p∈addsP (treeP ths 7),p.2.2=[]∨∃ y,p.2.2=[y]∧y∈(addsP (treeP ths 7)).map (·.1)
 noring:∀ c,¬ Ring (addsP (treeP ths 7)) c
 laps:lapsP 7 (addsP (treeP ths 7),ready0 (addsP (treeP ths 7)))=some rds2
 flat:rds2.flatten.length≤60
 sort:∀ ss:List Str,ss.Perm (rds2.flatten.filter λx=>decide (x≠Str.ofString ""))->sortedS ss=true->ss=nm7
section
variable {w:World} {B:Bs w} {A:Around} {L:Addr} {m m':Str->Option Value} {F r g:PH} {s:Shared} {env:Env} {E:Value->Shared->Prop}
theorem fin_valD {D C:Addr} {mC:Str->Option Value} {Q:Value->Shared->Prop} {acc:List (Str×Value)} (S:St B L m g s) (hD:s.heap.DictOf (strKind PG w) D acc) (aD:Away B L g [D] s.heap) (aC:Away B L g [C] s.heap) (nC:s.heap.Ns C mC) (hDC:D≠C)
  (h:∀ s' o,OD w acc o->g D=none->St B L m (put g D o) s'->Q (.ref D) s'):compPost (model PG w) A E none Q (.ref D) C (.ok .next) s:=by
 obtain ⟨o,ol,S2,nD⟩:=takeD S hD aD;refine post_value S2 (aC.put1 hDC) nC hDC λs' S' _=>h _ _ ol nD S'
theorem law_turn3 {fl:List Env} {lN dT lT:Addr} {ths:List Th} {rds2:List (List Str)} {es:List Ent} {en:Str} {te:Tok} {vT:List Value} {oT:Obj} {fa:Addr} {cd:Value}:∀ args body scope,PG.theDef (Str.ofString "law")=some (args,body,scope)->∀ t i b o p,body[5]?=some (.For t i b o p) ->
  St B L m F s->A.handled=none->Rm A 20->A.units < 8000->A.frames=some (envX (Str.ofString "law") scope L fa cd (cellsFrom (L + 1) scope.names []) :: fl)->FrOk B fl->CellAt B F (L + 2) (.ref lN)->CellAt B F (L + 4) (.ref lT)->CellAt B F (L + 6) (.ref dT)->SL F lN nm7->F lT=some oT->OL vT oT->vT.length≤3->Things w F dT (entKvs es) es->es.map Ent.th=ths->(es.map (·.n)).Nodup->(∀ x∈nm7,x∈ths.map (·.1))->(∀ x∈nm7,(pthT ths x).length≤900∧(dnF (pthT ths x)).length≤900)->TurnC ths rds2->m (Str.ofString "end")=some (.str en te) ->
  ∀ Q:Flow->Shared->Prop,(∀ s' m' F' T oT' oU,St B L m' F' s'->(∀ b o,b≠lT->F b=some o->F' b=some o)->F' lT=some oT'->OL (vT ++ [.ref T]) oT'->F' T=some oU->OT [.ref dT,.str en te] oU->F T=none ->
   (∀ x,x≠Str.ofString "rounds"->x≠Str.ofString "ring"->m' x=m x)->Q .next s') ->
  wpAny (model PG w) A (execs (b.drop 6) (envX (Str.ofString "law") scope L fa cd (cellsFrom (L + 1) scope.names []))) Q E s:=by
 refine law_for (by rfl) (by rfl) ?_;intro S hh hr hu hFr hfl C2 C4 C6 hN hT hTl hTz TT he hnd hmem hpl HC m1 Q h;refine in_envX ?_;intro _;dsimp only [List.drop];walk_at "J";refine r_dictComp ?_;walk_at "J";obtain ⟨oN,vN,hN1,hN2,hN3⟩:=id hN;have lN':=hN3.len_eq;have l7:nm7.length=7:=rfl;refine core_D ‹_› ((O_list ‹_› hh (.inl hN1) hN2).toG) (by exact n_t (n_e (Eq.trans ‹_› ‹_›)) (by decide)) (λi G acc=>Sub F G∧SKvs acc (treeP ths i)) ⟨Sub.rfl,.nil⟩ ?_ ?_ ?_ ?_
 ·rintro i G acc ⟨_,a⟩;have h1:=a.len;have h2:=tputs_len ((nm7.take i).map λx=>(x,bnF (dnF (pthT ths x)))) [];have h3:=List.length_take_le i nm7;rw [List.length_map,List.length_nil] at h2;unfold treeP at h1;exact om163 h1 h2 h3
 ·rintro i G acc ⟨h,_⟩ b hb o e;exact h _ _ e
 ·rintro i v G s B'' C' mC acc E' hB hi hv ⟨hsub,hacc⟩ S;refine gq λ_ z2=>?_;obtain ⟨x,tx,rfl,hx⟩:=hN3.item _ _ hv;have hx7:x∈nm7:=List.mem_of_getElem? hx;obtain ⟨fx,gx1,gx2⟩:=things_get TT hnd he (hmem x hx7);refine z2 ?_;have C6:=(C6.up hsub).upB hB;walk_at "J";refine ifs0 ?_;rw [if_pos rfl];walk_at "J";refine gx1 hsub ‹_› (λs S=>?_) (by with_unfolding_all rfl);walk_at "J";refine gx2 hsub ‹_› λs t1 S=>?_;walk_at "J";have sz:=sizeLine_eq;refine c_dirname (k:=5) ‹_› (hr.le (by decide)) (by have:=(hpl x hx7).1;exact n_t ‹_› (by decide)) λs t2 S=>?_;walk_at "J";refine c_basename (k:=5) ‹_› (hr.le (by decide)) (by have:=(hpl x hx7).2;exact n_t ‹_› (by decide)) λs t3 S=>?_;walk_at "J";refine ⟨_,_,x,_,rfl,‹_›,hsub,?_⟩
  have htk:treeP ths (i + 1)=tput (treeP ths i) x (bnF (dnF (pthT ths x))):=by
   unfold treeP;rw [List.take_add_one,hx,List.map_append];unfold tputs;rw [List.foldl_append];rfl
  rw [htk];exact skvs_stored hacc _ _ _
 rintro s' D C' mC G acc ⟨hsub,hacc⟩ hD aD aC hDC nC S';refine fin_valD S' hD aD aC nC hDC λs oD olD nD S=>?_;rw [lN',l7] at hacc;have sub1:=hsub.trans (Sub.put (o:=oD) nD);walk_at "J";obtain ⟨B',fr',K₃,back⟩:=callF' hFr hfl ‹_›;refine r_defCall (codeAny_mono (sp_came K₃ (hr.le (by decide)) hh hFr fr' ⟨oD,acc,put_self ..,olD,hacc⟩ (by rw [HC.len];decide) HC.hsuc (.inl HC.noring) (by rw [HC.len];exact HC.laps)) λr s' hR=>?_);obtain ⟨U2,lR,lr,ring,g2,rfl,hU2,K₄,sub2,hlR,hlr,nR,nr,hring⟩:=hR;have hring:ring=[]:=hring.elim (·.1) λh=>absurd h (HC.noring _);subst hring;have S:=back _ _ K₄;walk_at "J";refine a_tuple2 S hh hU2 λs S=>?_;have sub2:=sub1.trans sub2;walk_at "J";refine n_list ‹_› λs l0 o0 ol0 n0 _ _ S=>?_;walk_at "J";refine o_neSL ‹_› (hlr.sub (Sub.put n0)) ⟨o0,[],put_self ..,ol0,.nil⟩ (by exact Nat.lt_of_lt_of_le ‹_› (by decide)) ?_;rw [decide_eq_false (by simp)];have sub3:=sub2.trans (Sub.put (o:=o0) n0);have hlR:=hlR.sub (Sub.put (o:=o0) n0);walk_at "J";refine if_f (by decide) ?_;walk_at "J";refine gq λ_ z5=>?_;obtain ⟨mm,hmm,hm1,hm2,S⟩:∃ mm:Str->Option Value,And4 (mm (Str.ofString "rounds")=some (.ref lR)) (mm (Str.ofString "end")=some (.str en te)) ((∀ x,x≠Str.ofString "rounds"->x≠Str.ofString "ring"->mm x=m x)) (St B L mm _ _):=⟨_,by walk_at "J.m",by walk_at "J.m",λx h1 h2=>up_miss h2 (up_miss h1 rfl),‹_›⟩;refine z5 ?_;refine r_flat (B:=B) (rds:=rds2) (lo:=lR) (m:=mm) (λx=>decide (x≠Str.ofString "")) hh (by have:=HC.flat;exact n_t ‹_› (by decide)) (r_local S hmm ⟨rfl,hlR,S⟩) ?_ ?_
 ·intro B' C' G m s y t E hB hsub S;walk_at "J";refine ifs1 ?_;walk_at "J";refine o_neS ?_;walk_at "J"
  by_cases q:y=Str.ofString ""
  ·rw [decide_eq_false (by simp [q])];simp only [Bool.false_eq_true,if_false];exact ⟨trivial,_,‹_›⟩
  ·rw [decide_eq_true q];simp only [if_true];walk_at "J";exact ⟨trivial,_,_,rfl,‹_›⟩
 intro s D oD' hD' nD' S;obtain ⟨oa,va,a1,a2,a3⟩:=id hD';have lva:=a3.len_eq;have lfl:=List.length_filter_le (λx=>decide (x≠Str.ofString "")) rds2.flatten;have hfl2:=HC.flat;have sub4:=sub3.trans (Sub.put (o:=oD') nD');have C2:=C2.up sub4;walk_at "J";refine o_sorted ‹_› (a2.isList (St.sub ‹_› a1)) a3 (by exact om174 lva lfl hfl2) λs D3 us ss' e S hD3 aD3 hus hp hsd=>?_;rw [HC.sort ss' hp hsd] at hus;obtain ⟨o3,ol3,S,n3⟩:=takeL S hD3 aD3;have sub5:=sub4.trans (Sub.put (o:=o3) n3);have C2:=C2.up (Sub.put (o:=o3) n3);walk_at "J";refine o_neSL ‹_› ⟨o3,us,put_self ..,ol3,hus⟩ (hN.sub sub5) (by exact Nat.lt_of_lt_of_le ‹_› (by decide)) ?_;rw [decide_eq_false (by simp)];walk_at "J";refine if_f (by decide) ?_;have C4:=C4.up sub5;have C6:=C6.up sub5;walk_at "J";have hT4:=sub5 _ _ hT;refine r_meth PySem.F.plainAttrs_list PySem.F.slot_list_append PySem.F.type_list_append ?_;walk_at "J";refine ⟨hTl.typeIs (St.sub ‹_› hT4),λa e=>by cases e;exact ⟨_,St.sub ‹_› hT4,by obtain ⟨n,rfl⟩:=hTl;rfl⟩,?_⟩;walk_at "J";refine n_tupleK ‹_› λs U oU olU nU _ _ S=>?_;have hT5:=put_of (o:=oU) nU hT4;have nTU:lT≠U:=ne_none hT4 nU;walk_at "J";refine o_append ‹_› hT5 hTl (by have:=sizeLine_eq;exact n_t ‹_› (by decide)) λs oT' olT' S=>?_;walk_at "J";refine h _ _ _ U oT' oU ‹_› (λb o hb e=>(put_ne hb).trans (put_of nU (sub5 _ _ e))) (put_self ..) olT' ((put_ne nTU.symm).trans (put_self ..)) olU (none_sub nU sub5) hm2
end
structure EndOk (tD:List (Str×Str)) (ths0 ths1 thsG:List Th) (en0:Str) (ks0:List Str):Prop where
 rows:∀ th∈ths0,(∃ r,th.2.2=th.2.1 :: r)∧th.2.2.length≤100∧th.2.1.length≤1000
 z:ths0.length≤50
 hks:∀ ss:List Str,ss.Perm (wayP ths0 en0 ths0.length)->sortedS ss=true->ss=ks0
 len:(tputs (readB ths0 ths0) (ks0.zip (wayP ths0 en0 ths0.length))).length=tD.length
 look:∀ x y,(tputs (readB ths0 ths0) (ks0.zip (wayP ths0 en0 ths0.length))).lookup x=some y->tD.lookup x=some y
 mem1:∀ x∈nm7,x∈ths1.map (·.1)
 memG:∀ x∈nm7,x∈thsG.map (·.1)
 same:∀ x∈nm7,pthT ths1 x=pthT thsG x
section
variable {w:World} {B:Bs w} {A:Around} {L:Addr} {m m':Str->Option Value} {F r g:PH} {s:Shared} {env:Env} {E:Value->Shared->Prop}
theorem law_end {lN lT dD dG U0 U1 dT0 dT1:Addr} {oT oU0 oU1:Obj} {tD:List (Str×Str)} {ths0 ths1 thsG:List Th} {es0 es1 esG:List Ent} {en0 last:Str} {te0 te1 tl:Tok} {ks0:List Str} {fa:Addr} {cd:Value}:∀ args body scope,PG.theDef (Str.ofString "law")=some (args,body,scope) ->
  St B L m F s->A.handled=none->Rm A 20->A.units < 8000->CellAt B F (L + 2) (.ref lN)->CellAt B F (L + 3) (.ref dG)->CellAt B F (L + 4) (.ref lT)->SL F lN nm7->SD w F dD tD->F lT=some oT->OL [.ref U0,.ref U1] oT->F U0=some oU0->OT [.ref dT0,.str en0 te0] oU0->F U1=some oU1->OT [.ref dT1,.str last te1] oU1 ->
  Things w F dT0 (entKvs es0) es0->es0.map Ent.th=ths0->(es0.map (·.n)).Nodup->Things w F dT1 (entKvs es1) es1->es1.map Ent.th=ths1->(es1.map (·.n)).Nodup->Things w F dG (entKvs esG) esG->esG.map Ent.th=thsG->(esG.map (·.n)).Nodup->EndOk tD ths0 ths1 thsG en0 ks0 ->
  m (Str.ofString "drawn")=some (.ref dD)->m (Str.ofString "last")=some (.str last tl) ->
  ∀ Q:Flow->Shared->Prop,(∀ s' m' F',St B L m' F' s'->Q (.ret (.bool true)) s') ->
  wpAny (model PG w) A (execs (body.drop 6) (envX (Str.ofString "law") scope L fa cd (cellsFrom (L + 1) scope.names []))) Q E s:=by
 refine law_in (by rfl) ?_;intro S hh hr hu C2 C3 C4 hN hD hT hTl hU0 hU0t hU1 hU1t T0 he0 nd0 T1 he1 nd1 TG heG ndG H m1 m2 Q h;refine in_envX ?_;intro _;dsimp only [List.drop];walk_at "J";refine t_item (hTl.isList (St.sub ‹_› hT)) (by decide) (by decide) (by rfl) ?_;walk_at "J";refine t_tup ‹_› hU0 hU0t (by decide) (by decide) (by rfl) ?_;walk_at "J";refine t_item (hTl.isList (St.sub ‹_› hT)) (by decide) (by decide) (by rfl) ?_;walk_at "J";refine t_tup ‹_› hU0 hU0t (by decide) (by decide) (by rfl) ?_;walk_at "J";refine St.call ‹_› λrr K₁ back=>?_;have lz:es0.length=ths0.length:=by rw [<-he0,List.length_map]
 have hz:=H.z;have hmem:∀ e∈es0,e.th∈ths0:=λe he=>by rw [<-he0];exact List.mem_map_of_mem he
 refine r_defCall (codeAny_mono (sp_read K₁ (hr.le (by decide)) hh T0 nd0 he0 (λe he=>(H.rows _ (hmem e he)).1) (by exact n_t (n_e ‹_›) ‹_›) (λe he=>(H.rows _ (hmem e he)).2.1) (λe he=>(H.rows _ (hmem e he)).2.2) H.hks) λr s' hR=>?_);obtain ⟨dS,g',rfl,K₂,sub1,nS,hS⟩:=hR;have S:=back _ _ K₂;dsimp only;walk_at "J";refine o_neD ‹_› hS (hD.sub sub1) H.len H.look (by exact Nat.lt_of_lt_of_le ‹_› (by decide)) ?_;walk_at "J";refine if_f (by decide) ?_;have C2:=C2.up sub1;have C3:=C3.up sub1;have C4:=C4.up sub1;have hT:=sub1 _ _ hT;have hU1:=sub1 _ _ hU1;walk_at "J";refine t_item (hTl.isList (St.sub ‹_› hT)) (by decide) (by decide) (by rfl) ?_;walk_at "J";refine t_tup ‹_› hU1 hU1t (by decide) (by decide) (by rfl) ?_;walk_at "J";refine o_neS ?_;rw [decide_eq_false (by simp)];walk_at "J";refine if_f (by decide) ?_;walk_at "J";have hN:=hN.sub sub1;obtain ⟨oN,vN,hN1,hN2,hN3⟩:=id hN;have lN':=hN3.len_eq;have l7:nm7.length=7:=rfl;refine r_listComp ?_;walk_at "J";refine core_L ‹_› ((O_list ‹_› hh (.inl hN1) hN2).toG) (by exact n_t (n_e (Eq.trans ‹_› ‹_›)) (by decide)) (λi G acc=>Sub g' G∧StrsAre acc ((nm7.take i).map (pthT ths1))) ⟨Sub.rfl,.nil⟩ ?_ ?_ ?_ ?_
 ·rintro i G acc ⟨_,h⟩;rw [h.len_eq,List.length_map];exact List.length_take_le ..
 ·rintro i G acc ⟨h,_⟩ b hb o e;exact h _ _ e
 ·rintro i v G s B'' C' mC acc E' hB hi hv ⟨hsub,hacc⟩ S;refine gq λ_ z4=>?_;obtain ⟨x,tx,rfl,hx⟩:=hN3.item _ _ hv;have hx7:x∈nm7:=List.mem_of_getElem? hx;obtain ⟨fx,gx1,gx2⟩:=things_get T1 nd1 he1 (H.mem1 x hx7);refine z4 ?_;have C4:=(C4.up hsub).upB hB;have hT:=hsub _ _ hT;have hU1:=hsub _ _ hU1;walk_at "J";refine ifs0 ?_;rw [if_pos rfl];walk_at "J";refine t_item (hTl.isList (St.sub ‹_› hT)) (by decide) (by decide) (by rfl) ?_;walk_at "J";refine t_tup ‹_› hU1 hU1t (by decide) (by decide) (by rfl) ?_;walk_at "J";refine gx1 (sub1.trans hsub) ‹_› (λs S=>?_) (by with_unfolding_all rfl);walk_at "J";refine gx2 (sub1.trans hsub) ‹_› λs t1 S=>?_;walk_at "J";refine ⟨_,_,‹_›,hsub,?_⟩;have htk:nm7.take (i + 1)=nm7.take i ++ [x]:=by rw [List.take_add_one,hx];rfl
  rw [htk,List.map_append];exact hacc.append' (.cons _ _ .nil)
 rintro s' D C' mC G acc ⟨hsub,hacc⟩ hD2 aD aC hDC nC S';refine fin_valL S' hD2 aD aC nC hDC λs oD olD nD S=>?_;rw [lN',l7,show nm7.take 7=nm7 from rfl] at hacc;have sub2:=hsub.trans (Sub.put (o:=oD) nD);have C2:=C2.up sub2;have C3:=C3.up sub2;have hN1:=sub2 _ _ hN1;have hX:SL (put G D oD) D (nm7.map (pthT ths1)):=⟨oD,acc,put_self ..,olD,hacc⟩;obtain ⟨G3,hG3⟩:∃ G3,G3=put G D oD:=⟨_,rfl⟩;rw [<-hG3] at S C2 C3 hN1 hX sub2;clear hG3;walk_at "J";refine r_listComp ?_;walk_at "J";refine core_L ‹_› ((O_list ‹_› hh (.inl hN1) hN2).toG) (by exact n_t (n_e (Eq.trans ‹_› ‹_›)) (by decide)) (λi G acc=>Sub G3 G∧StrsAre acc ((nm7.take i).map (pthT thsG))) ⟨Sub.rfl,.nil⟩ ?_ ?_ ?_ ?_
 ·rintro i G acc ⟨_,h⟩;rw [h.len_eq,List.length_map];exact List.length_take_le ..
 ·rintro i G acc ⟨h,_⟩ b hb o e;exact h _ _ e
 ·rintro i v G s B'' C' mC acc E' hB hi hv ⟨hsub,hacc⟩ S;refine gq λ_ z5=>?_;obtain ⟨x,tx,rfl,hx⟩:=hN3.item _ _ hv;have hx7:x∈nm7:=List.mem_of_getElem? hx;obtain ⟨fx,gx1,gx2⟩:=things_get TG ndG heG (H.memG x hx7);refine z5 ?_;have C3:=(C3.up hsub).upB hB;walk_at "J";refine ifs0 ?_;rw [if_pos rfl];walk_at "J";refine gx1 (sub1.trans (sub2.trans hsub)) ‹_› (λs S=>?_) (by with_unfolding_all rfl);walk_at "J";refine gx2 (sub1.trans (sub2.trans hsub)) ‹_› λs t1 S=>?_;walk_at "J";refine ⟨_,_,‹_›,hsub,?_⟩;have htk:nm7.take (i + 1)=nm7.take i ++ [x]:=by rw [List.take_add_one,hx];rfl
  rw [htk,List.map_append];exact hacc.append' (.cons _ _ .nil)
 rintro s' D4 C4' mC4 G4 acc4 ⟨hsub4,hacc4⟩ hD4 aD4 aC4 hDC4 nC4 S';refine fin_valL S' hD4 aD4 aC4 nC4 hDC4 λs oD4 olD4 nD4 S=>?_;rw [lN',l7,show nm7.take 7=nm7 from rfl] at hacc4;refine o_eqSL ‹_› (hX.sub (hsub4.trans (Sub.put nD4))) ⟨oD4,acc4,put_self ..,olD4,hacc4⟩ (by exact Nat.lt_of_lt_of_le ‹_› (by decide)) ?_;rw [decide_eq_true (List.map_congr_left λx hx=>H.same x hx)];exact h _ _ _ ‹_›
end
section
variable {w:World} {B:Bs w} {A:Around} {L:Addr} {m m':Str->Option Value} {F r g g':PH} {s:Shared} {env:Env} {E:Value->Shared->Prop}
theorem Things.chgL {d l:Addr} {o:Obj} {vs:List Value} {kvs:List (Str×Value)} {es:List Ent} (T:Things w g d kvs es) (k:Chg [l] g g') (h:g l=some o) (hl:OL vs o) (hn:∀ e∈es,e.rl≠l):Things w g' d kvs es:=by
 have ls:Lists g [l]:=.one h hl;obtain ⟨od,h1,h2⟩:=T.od;exact ⟨⟨od,k _ _ (ls.not h1 (by rw [h2.cls];intro e;exact absurd (Value.type.inj e) (by decide))) h1,h2⟩,λe he=>(T.th e he).chg k ls (by simpa using hn e he),T.nd,T.dd⟩
theorem un_none {h1:bx r 321=none} {h2:bx r 293=none} (S:St (B.ext (bx r) h1 h2) L m F s) (nb:∀ b o,r b=some o->B.base b=none):∀ b o,r b=some o->F b=none:=λb o e=>by
 cases q:F b with
 |none=>rfl
 |some x=>
  have:=S.kp.dis _ _ q;change extB B.base (bx r) b=none at this;rw [extB_new (nb _ _ e)] at this;unfold bx at this;rw [e] at this;cases this
theorem un_get (hF:∀ b o,r b=some o->F b=none) {b:Addr} {o:Obj} (e:F b=some o):un F r b=some o:=by
 unfold un;cases q:r b with
 |none=>exact e
 |some x=>rw [hF _ _ q] at e;cases e
theorem CellsL.toB {B':Bs w} {v1 v2 v3 v4 v5 v6:Option Value} (C:CellsL B r L v1 v2 v3 v4 v5 v6) (nb:∀ b o,r b=some o->B'.base b=none):CellsL B' r L v1 v2 v3 v4 v5 v6:=⟨nb,C.cs,C.c1,C.c2,C.c3,C.c4,C.c5,C.c6⟩
noncomputable def KeptTree (w:World) (F:PH) (lT:Addr) (v:Value) (ths:List Th) (en:Str):Prop:=
 Ex5 λU oU dT es te=>And8 (v=.ref U) (F U=some oU) (OT [.ref dT,.str en te] oU) (U≠lT) (Things w F dT (entKvs es) es) (es.map Ent.th=ths) ((es.map (·.n)).Nodup) (∀ e∈es,e.rl≠lT)
theorem KeptTree.chg {lT:Addr} {v:Value} {ths:List Th} {en:Str} {o:Obj} {vs:List Value} (h:KeptTree w g lT v ths en) (k:Chg [lT] g g') (ho:g lT=some o) (hl:OL vs o):KeptTree w g' lT v ths en:=by
 obtain ⟨U,oU,dT,es,te,h1,h2,h3,h4,h5,h6,h7,h8⟩:=h;exact ⟨U,oU,dT,es,te,h1,k _ _ (by simpa using h4) h2,h3,h4,h5.chgL k ho hl h8,h6,h7,h8⟩
structure LoopH (w:World) (B:Bs w) (F r:PH) (L lN dG lT dD dS l:Addr) (tb:Nat->List (Str×Str)) (esG:List Ent) (thsG:List Th) (th:Nat->List Th) (en:Nat->Str) (ol:Obj) (v1 v5 v6:Option Value) (i:Nat):Prop where
 dis:∀ b o,r b=some o->F b=none
 C:CellsL B r L v1 (some (.ref lN)) (some (.ref dG)) (some (.ref lT)) v5 v6
 hN:SL F lN nm7
 nN:lN≠lT
 TG:Things w F dG (entKvs esG) esG
 eG:esG.map Ent.th=thsG
 ndG:(esG.map (·.n)).Nodup
 nG:∀ e∈esG,e.rl≠lT
 hD:SD w F dD (tb 0)
 hS:SD w F dS (tb 1)
 hl:F l=some ol
 nl:l≠lT
 tr:Ex2 λvT oT=>And4 (F lT=some oT) (OL vT oT) (vT.length=i) (∀ (j:Nat) v,vT[j]?=some v->KeptTree w F lT v (th j) (en j))
theorem law_loop {lN dG lT dD dS l:Addr} {ol:Obj} {tb:Nat->List (Str×Str)} {esG:List Ent} {thsG:List Th} {th:Nat->List Th} {en:Nat->Str} {rd rd2:Nat->List (List Str)} {v1 v5 v6:Option Value} {last:Str} {tl te:Tok} {ks0:List Str} {fa:Addr} {cd:Value}:∀ args body scope,PG.theDef (Str.ofString "law")=some (args,body,scope)->∀ t i b o p,body[5]?=some (.For t i b o p) ->
  St B L m (un F r) s->A.handled=none->Rm A 20->A.units < 8000->A.frames=some [envX (Str.ofString "law") scope L fa cd (cellsFrom (L + 1) scope.names [])] ->
  LoopH w B F r L lN dG lT dD dS l tb esG thsG th en ol v1 v5 v6 0->OL [.ref dD,.ref dS] ol->(∀ i < 2,TurnA (tb i) (rd i)∧TurnB (tb i) (rd i) (th i) (en i)∧TurnC (th i) (rd2 i)∧∀ x∈nm7,(dnF (pthT (th i) x)).length≤900)->EndOk (tb 0) (th 0) (th 1) thsG (en 0) ks0->en 1=last ->
  m (Str.ofString "drawn")=some (.ref dD)->m (Str.ofString "last")=some (.str last tl) ->
  ∀ (R:Result->Shared->Prop),(∀ s' m' g',St B L m' g' s'->(∀ (Q:Flow->Shared->Prop) (E':Value->Shared->Prop),(∀ s' m' F',St B L m' F' s'->Q (.ret (.bool true)) s')->wpAny (model PG w) A (execs (body.drop 6) (envX (Str.ofString "law") scope L fa cd (cellsFrom (L + 1) scope.names []))) Q E' s')->R (.ok .next) s') ->
  wpAny (model PG w) A (pyIter (.ref l)) (λit s₂=>codeAny (model PG w) A (.forLoop t it b [] (envX (Str.ofString "law") scope L fa cd (cellsFrom (L + 1) scope.names []))) R s₂) E s:=by
 refine law_for (by rfl) (by rfl) ?_;intro S hh hr hu hF H0 hol hT hE hen m1 m2 R hR
 refine for_O (O_list S hh (.inl (un_get H0.dis H0.hl)) hol) (λi m' g=>Ex4 λF r v5 v6=>And4 (g=un F r) (LoopH w B F r L lN dG lT dD dS l tb esG thsG th en ol v1 v5 v6 i) (m' (Str.ofString "drawn")=some (.ref dD)) (m' (Str.ofString "last")=some (.str last tl))) (λ_ _ _=>False)
  ⟨F,r,v5,v6,rfl,H0,m1,m2⟩ ?_ ?_ ?_ (λ_ _ _ _ h=>h.elim)
 ·rintro i m' g' ⟨F',r',v5',v6',rfl,H,_⟩;exact keep1 (un_get H0.dis H0.hl) (un_get H.dis H.hl)
 ·rintro i v m' g s B' E' hB hi hv ⟨F1,r1,v5,v6,rfl,H,m1,m2⟩ S;have nb':∀ b o,r1 b=some o->B'.base b=none:=λb o e=>S.kp.dis b o (by unfold un;rw [e]);refine gq λ_ z1=>?_;obtain ⟨h1,h2,S⟩:=hideC S H.dis H.C.cs;have C:=H.C.toB nb'
  obtain ⟨ds,rfl,hsd⟩:∃ ds,v=.ref ds∧SD w F1 ds (tb i):=by
   rcases at_two hv with ⟨rfl,rfl⟩|⟨rfl,rfl⟩
   ·exact ⟨_,rfl,H.hD⟩
   ·exact ⟨_,rfl,H.hS⟩
  refine z1 ?_;intro QQ fin;refine gq λ_ z2=>?_;obtain ⟨TA,TB,TC,hd⟩:=hT i hi;obtain ⟨o5,c5,d5⟩:=C.c5;refine z2 ?_;refine a_name (storeB S nb' C.cs c5 d5 λs o5' h1 h2 d5' nb5 cs5 S=>?_);have C:=C.put5 d5' nb5 cs5;refine law_turn1 (fl:=[]) _ _ _ (by rfl) _ _ _ _ _ (by rfl) S hh hr hu hF (λ_ h=>nomatch h) (cellAt C.nb C.c5 Le.rfl') hsd TA QQ (λs m2' F2 lR lF _ S sub2 hlR hlF hm1 hm2 hm3 _=>?_);refine law_turn2 _ _ _ (by rfl) _ _ _ _ _ (by rfl) S hh hr hu C (hsd.sub sub2) hlR (H.hN.sub sub2) hlF TA TB hm1 hm2 QQ (λs m3 F3 r3 h1 h2 dT es te S C sub3 TT he hnd hnrl hme hm4=>?_);obtain ⟨vT,oT,t1,t2,t3,t4⟩:=H.tr;have sub13:=sub2.trans sub3;have t1':=sub13 _ _ t1;refine law_turn3 (fl:=[]) _ _ _ (by rfl) _ _ _ _ _ (by rfl) S hh hr hu hF (λ_ h=>nomatch h) (cellAt C.nb C.c2 Le.rfl') (cellAt C.nb C.c4 Le.rfl') (cellAt C.nb C.c6 Le.rfl') (H.hN.sub sub13) t1' t2 (by have:i < 2:=hi;exact om175 t3 this) TT he hnd TB.mem (λx hx=>⟨(TB.plen x hx).1,hd x hx⟩) TC hme QQ (λs m4' F4 U oT' oU S chg hT' olT' hU otU nU hm5=>?_);have K:Chg [lT] F3 F4:=λb o hb e=>chg b o (by simpa using hb) e;have ls:Lists F3 [lT]:=.one t1' t2
  have nbB:∀ b o,r3 b=some o->B.base b=none:=λb o e=>by
   cases q:B.base b with
   |none=>rfl
   |some x=>have:=hB _ _ q;rw [C.nb _ _ e] at this;cases this
  refine fin _ _ ?_
  refine ⟨m4',un F4 r3,showC S C.nb,F4,r3,_,_,rfl,⟨un_none S C.nb,C.toB nbB,(H.hN.sub sub13).chg K (by simpa using H.nN),H.nN,(H.TG.chg sub13).chgL K t1' t2 H.nG,H.eG,H.ndG,H.nG,(H.hD.sub sub13).chgL K ls,(H.hS.sub sub13).chgL K ls,chg _ _ H.nl (sub13 _ _ H.hl),H.nl,vT ++ [.ref U],oT',hT',olT',by rw [List.length_append,t3];rfl,λj v hj=>?_⟩,
   (hm5 _ (by decide) (by decide)).trans ((hm4 _ (by decide) (by decide) (by decide)).trans ((hm3 _ (by decide) (by decide) (by decide) (by decide)).trans m1)),(hm5 _ (by decide) (by decide)).trans ((hm4 _ (by decide) (by decide) (by decide)).trans ((hm3 _ (by decide) (by decide) (by decide) (by decide)).trans m2))⟩
  by_cases q:j < vT.length
  ·rw [List.getElem?_append_left q] at hj;obtain ⟨U',oU',dT',es',te',k1,k2,k3,k4,k5,k6,k7,k8⟩:=t4 j v hj;exact KeptTree.chg ⟨U',oU',dT',es',te',k1,sub13 _ _ k2,k3,k4,k5.chg sub13,k6,k7,k8⟩ K t1' t2
  ·rw [List.getElem?_append_right (by exact Nat.le_of_not_lt ‹_›)] at hj
   have hji:j - vT.length=0:=by
    obtain ⟨hq,_⟩:=List.getElem?_eq_some_iff.mp hj;simp at hq;assumption
   rw [hji] at hj;cases hj;have:j=i:=by exact om176 t3 q hji
   subst this;exact ⟨U,oU,dT,es,te,rfl,hU,otU,(ne_none t1' nU).symm,TT.chgL K t1' t2 (λe he'=>(ne_none (sub2 _ _ t1) (hnrl e he')).symm),he,hnd,λe he'=>(ne_none (sub2 _ _ t1) (hnrl e he')).symm⟩
 ·rintro m' g s₁ E₁ ⟨F1,r1,v5,v6,rfl,H,m1,m2⟩ S;intro _ hR1;refine x_nil (hR1 _ _ (hR s₁ m' _ S λQ E' hQ=>?_));have nb':∀ b o,r1 b=some o->B.base b=none:=H.C.nb;refine gq λ_ z5=>?_;obtain ⟨h1,h2,S⟩:=hideC S H.dis H.C.cs;have C:=H.C;obtain ⟨vT,oT,t1,t2,t3,t4⟩:=H.tr;refine z5 ?_;obtain ⟨a,b,rfl⟩:=two_of t3;refine gq λ_ z6=>?_;obtain ⟨U0,oU0,dT0,es0,te0,rfl,k2,k3,k4,k5,k6,k7,k8⟩:=t4 0 a rfl;obtain ⟨U1,oU1,dT1,es1,te1,rfl,j2,j3,j4,j5,j6,j7,j8⟩:=t4 1 b rfl;refine z6 ?_;rw [hen] at j3;exact law_end _ _ _ (by rfl) S hh hr hu (cellAt C.nb C.c2 Le.rfl') (cellAt C.nb C.c3 Le.rfl') (cellAt C.nb C.c4 Le.rfl') H.hN H.hD t1 t2 k2 k3 j2 j3 k5 k6 k7 j5 j6 j7 H.TG H.eG H.ndG hE m1 m2 Q λs' m' F' S'=>hQ s' m' _ (showC S' nb')
end
noncomputable def PlainOk (cs:List Int):Prop:=Ex9 λ(thsG:List Th) (last:Str) (ksG ks0:List Str) (tb:Nat->List (Str×Str)) (th:Nat->List Th) (en:Nat->Str) (rd rd2:Nat->List (List Str))=>And10 (hangAll root0 (gSeq (rowF [] 0 (nm7.zip cs)) cs 0 (rowF [] 0 (nm7.zip cs)))=some thsG) ((rowF [] 0 (nm7.zip cs))[((((cs.getD 0 0).fdiv 2940)).fmod 7).toNat]?=some last) ((∀ t∈thsG,(∃ r,t.2.2=t.2.1 :: r)∧t.2.2.length≤100∧t.2.1.length≤1000)) (thsG.length≤50) ((∀ ss:List Str,ss.Perm (wayP thsG last thsG.length)->sortedS ss=true->ss=ksG)) (tb 0=drawnP cs 7) (tb 1=tputs (readB thsG thsG) (ksG.zip (wayP thsG last thsG.length))) (en 1=last) ((∀ i < 2,TurnA (tb i) (rd i)∧TurnB (tb i) (rd i) (th i) (en i)∧TurnC (th i) (rd2 i)∧∀ x∈nm7,(dnF (pthT (th i) x)).length≤900)) (EndOk (tb 0) (th 0) (th 1) thsG (en 0) ks0)
section
variable {w:World} {B:Bs w} {A:Around} {L:Addr} {m m':Str->Option Value} {F r g g':PH} {s:Shared} {env:Env} {E:Value->Shared->Prop}
theorem law_for2 {lN dD dG lT:Addr} {es:List Ent} {thsG:List Th} {last:Str} {tl:Tok} {ksG ks0:List Str} {tb:Nat->List (Str×Str)} {th:Nat->List Th} {en:Nat->Str} {rd rd2:Nat->List (List Str)} {v1 v5 v6:Option Value} {h1:bx r 321=none} {h2:bx r 293=none} {fa:Addr} {cd:Value}:∀ args body scope,PG.theDef (Str.ofString "law")=some (args,body,scope) ->
  St (B.ext (bx r) h1 h2) L m F s->A.handled=none->Rm A 20->A.units < 8000->A.frames=some [envX (Str.ofString "law") scope L fa cd (cellsFrom (L + 1) scope.names [])] ->
  CellsL B r L v1 (some (.ref lN)) (some (.ref dG)) (some (.ref lT)) v5 v6->SL F lN nm7->SD w F dD (tb 0)->Things w F dG (entKvs es) es->es.map Ent.th=thsG->(es.map (·.n)).Nodup->(∃ o,F lT=some o∧OL [] o)->lN≠lT->(∀ e∈es,e.rl≠lT)->m (Str.ofString "drawn")=some (.ref dD)->m (Str.ofString "last")=some (.str last tl) ->
  (∀ t∈thsG,(∃ r,t.2.2=t.2.1 :: r)∧t.2.2.length≤100∧t.2.1.length≤1000)->thsG.length≤50->(∀ ss:List Str,ss.Perm (wayP thsG last thsG.length)->sortedS ss=true->ss=ksG) ->
  tb 1=tputs (readB thsG thsG) (ksG.zip (wayP thsG last thsG.length))->en 1=last->(∀ i < 2,TurnA (tb i) (rd i)∧TurnB (tb i) (rd i) (th i) (en i)∧TurnC (th i) (rd2 i)∧∀ x∈nm7,(dnF (pthT (th i) x)).length≤900)->EndOk (tb 0) (th 0) (th 1) thsG (en 0) ks0 ->
  ∀ Q:Flow->Shared->Prop,(∀ s' m' F',St B L m' F' s'->Q (.ret (.bool true)) s') ->
  wpAny (model PG w) A (execs (body.drop 5) (envX (Str.ofString "law") scope L fa cd (cellsFrom (L + 1) scope.names []))) Q E s:=by
 refine law_in (by rfl) ?_;intro S hh hr hu hF C hN hD TG heG ndG hT nN nG m1 m2 hrow hz hks ht1 hen hT2 hE Q h;dsimp only [List.drop];have C3:CellAt (B.ext (bx r) h1 h2) F (L + 3) (.ref dG):=cellAt C.nb C.c3 Le.rfl';walk_at "J";refine St.call ‹_› λrr K₁ back=>?_;have lz:es.length=thsG.length:=by rw [<-heG,List.length_map]
 have hmem:∀ e∈es,e.th∈thsG:=λe he=>by rw [<-heG];exact List.mem_map_of_mem he
 refine r_defCall (codeAny_mono (sp_read K₁ (hr.le (by decide)) hh TG ndG heG (λe he=>(hrow _ (hmem e he)).1) (by exact n_t (n_e ‹_›) ‹_›) (λe he=>(hrow _ (hmem e he)).2.1) (λe he=>(hrow _ (hmem e he)).2.2) hks) λr' s' hR=>?_);obtain ⟨dS,g',rfl,K₂,sub1,nS,hS⟩:=hR;rw [<-ht1] at hS;have S:=back _ _ K₂;dsimp only;walk_at "J";refine n_list ‹_› λs l ol oll nl _ _ S=>?_;walk_at "J";have sub2:=sub1.trans (Sub.put (o:=ol) nl);obtain ⟨oT,hT,hTl⟩:=hT;refine law_loop (B:=B) (F:=put g' l ol) (r:=r) (ol:=ol) (te:=tl) (v1:=v1) (v5:=v5) (v6:=v6) _ _ _ (by rfl) _ _ _ _ _ (by rfl) (showC S C.nb) hh hr hu hF ⟨un_none S C.nb,C,hN.sub sub2,nN,TG.chg sub2,heG,ndG,nG,hD.sub sub2,hS.sub (Sub.put nl),put_self ..,(ne_none (sub1 _ _ hT) nl).symm,⟨[],oT,sub2 _ _ hT,hTl,rfl,λj v h=>by simp at h⟩⟩ oll hT2 hE hen m1 m2 _ λs' m' g' S' hk=>?_
 with_reducible refine (by assumption:∀ (r:_) (s:Shared),_->_) _ _ ?_
 exact hk Q E h
theorem law_all {lS:Addr} {vals:List Value} {ns:List Int} {v2 v3 v4 v5 v6:Option Value} {h1:bx r 321=none} {h2:bx r 293=none} {fa:Addr} {cd:Value} (hP:∀ cs:List Int,cs.length=7->PlainOk cs):∀ args body scope,PG.theDef (Str.ofString "law")=some (args,body,scope) ->
  St (B.ext (bx r) h1 h2) L m F s->A.handled=none->Rm A 20->A.units < 8000->A.frames=some [envX (Str.ofString "law") scope L fa cd (cellsFrom (L + 1) scope.names [])]->CellsL B r L (some (.ref lS)) v2 v3 v4 v5 v6->(∃ o,B.base lS=some (.ex o)∧∀ h:Heap,h.get? lS=some o->h.IsList lS vals.toArray)->IntsAre vals ns->ns.length≤63 ->
  ∀ Q:Flow->Shared->Prop,(∀ s' m' F',St B L m' F' s'->Q (.ret (.bool true)) s')->wpAny (model PG w) A (execs body (envX (Str.ofString "law") scope L fa cd (cellsFrom (L + 1) scope.names []))) Q E s:=by
 intro args body scope hb S hh hr hu hF C hS hI hlen Q h;refine law_cells _ _ _ hb S hh C hS hI hlen Q λs m' F' lC cs S sub hC h7 hm=>?_;obtain ⟨thsG,last,ksG,ks0,tb,th,en,rd,rd2,p1,p2,p3,p4,p5,p6,p7,p8,p9,p10⟩:=hP cs h7;refine law_pre _ _ _ hb S hh (hr.le (by decide)) C hC h7 hm p1 p2 Q λs m' F' r' h1 h2 lN dD dG es lT tl S C sub2 hN hD TG he hnd hT nN nG m1 m2=>?_;rw [<-p6] at hD;exact law_for2 _ _ _ hb S hh hr hu hF C hN hD TG he hnd hT nN nG m1 m2 p3 p4 p5 p7 p8 p9 p10 Q h
end
section
variable {w:World} {mg mb:Str->Option Value} {GH:Heap} {L:Addr} {m:Str->Option Value} {lo:List Str} {me:ExcName->Option Value} {s:Shared} {E:Value->Shared->Prop}
theorem law_top {lS:Addr} {vals:List Value} {ns:List Int} {o1 o2 o3 o4 o5 o6:Obj} {v2 v3 v4 v5 v6:Option Value} {fa:Addr} {cd:Value} (hP:∀ cs:List Int,cs.length=7->PlainOk cs) (X:(HF w).In GH) (T:Top topProg lo me mg mb GH) (hsm:∃ o,GH.get? sysModules=some o) (F:Fr GH L s.heap m) (c1:CodeHd GH 323 321) (c2:CodeHd GH 297 293) (e1:GH.get? 321=none) (e2:GH.get? 293=none)
  (n1:s.heap.get? 321=some (tabObj #[])) (n2:s.heap.get? 293=some (tabObj #[])) (l1:321 < L) (l2:293 < L) (hg:s.gens=#[])
  (k1:s.heap.get? (L + 1)=some o1) (k2:s.heap.get? (L + 2)=some o2) (k3:s.heap.get? (L + 3)=some o3) (k4:s.heap.get? (L + 4)=some o4) (k5:s.heap.get? (L + 5)=some o5) (k6:s.heap.get? (L + 6)=some o6)
  (d1:o1.data=.cell (some (.ref lS))) (d2:o2.data=.cell v2) (d3:o3.data=.cell v3) (d4:o4.data=.cell v4) (d5:o5.data=.cell v5) (d6:o6.data=.cell v6)
  (hS:GH.IsList lS vals.toArray) (hI:IntsAre vals ns) (hlen:ns.length≤63):∀ args body scope,PG.theDef (Str.ofString "law")=some (args,body,scope) ->
  ∀ Q:Flow->Shared->Prop,(∀ s',(∃ m',Fr GH L s'.heap m')->s'.os=s.os->s'.gens=#[]->GrownAll [(323,321),(297,293)] s'.heap->Q (.ret (.bool true)) s')->wpAny (model PG w) (callerA.deeper (envX (Str.ofString "law") scope L fa cd (cellsFrom (L + 1) scope.names []))) (execs body (envX (Str.ofString "law") scope L fa cd (cellsFrom (L + 1) scope.names []))) Q E s:=by
 intro args body scope hb Q h;refine gq λ_ z1=>?_;obtain ⟨B,hos,hfe,hbase,S⟩:=law_start (s:=s) X T hsm F c1 c2 e1 e2 n1 n2 (Nat.ne_of_gt l1) (Nat.ne_of_gt l2) hg
 have bn:∀ b,L < b->B.base b=none:=λb hb=>by
  rw [hbase];cases q:GH.get? b with
  |none=>rfl
  |some o=>exact absurd (Nat.lt_of_lt_of_le (Heap.lt_size q) F.above) (Nat.not_lt.mpr (Nat.le_of_lt hb))
 have up:∀ i:Nat,0 < i->L < L + i:=λi h=>Nat.lt_add_of_pos_right h;have S1:=S.take k1 (bn _ (up 1 (by decide))) (Nat.ne_of_gt (up 1 (by decide))) (Nat.ne_of_gt (Nat.lt_trans l1 (up 1 (by decide)))) (Nat.ne_of_gt (Nat.lt_trans l2 (up 1 (by decide))));have S2:=S1.take k2 (bn _ (up 2 (by decide))) (Nat.ne_of_gt (up 2 (by decide))) (Nat.ne_of_gt (Nat.lt_trans l1 (up 2 (by decide)))) (Nat.ne_of_gt (Nat.lt_trans l2 (up 2 (by decide))));have S3:=S2.take k3 (bn _ (up 3 (by decide))) (Nat.ne_of_gt (up 3 (by decide))) (Nat.ne_of_gt (Nat.lt_trans l1 (up 3 (by decide)))) (Nat.ne_of_gt (Nat.lt_trans l2 (up 3 (by decide))));have S4:=S3.take k4 (bn _ (up 4 (by decide))) (Nat.ne_of_gt (up 4 (by decide))) (Nat.ne_of_gt (Nat.lt_trans l1 (up 4 (by decide)))) (Nat.ne_of_gt (Nat.lt_trans l2 (up 4 (by decide))));have S5:=S4.take k5 (bn _ (up 5 (by decide))) (Nat.ne_of_gt (up 5 (by decide))) (Nat.ne_of_gt (Nat.lt_trans l1 (up 5 (by decide)))) (Nat.ne_of_gt (Nat.lt_trans l2 (up 5 (by decide))));have S6:=S5.take k6 (bn _ (up 6 (by decide))) (Nat.ne_of_gt (up 6 (by decide))) (Nat.ne_of_gt (Nat.lt_trans l1 (up 6 (by decide)))) (Nat.ne_of_gt (Nat.lt_trans l2 (up 6 (by decide))));obtain ⟨r,hr⟩:∃ r,r=put (put (put (put (put (put (λ_=>none) (L + 1) o1) (L + 2) o2) (L + 3) o3) (L + 4) o4) (L + 5) o5) (L + 6) o6:=⟨_,rfl⟩;rw [<-hr] at S6;have ne:∀ i j:Nat,i≠j->L + i≠L + j:=λi j h e=>h (Nat.add_left_cancel e)
 have rget:∀ b o,r b=some o->(L < b)∧∃ v,o.data=.cell v:=λb o e=>by
  rw [hr] at e
  by_cases q6:b=L + 6
  ·subst q6;rw [put_self] at e;cases e;exact ⟨up 6 (by decide),_,d6⟩
  rw [put_ne q6] at e
  by_cases q5:b=L + 5
  ·subst q5;rw [put_self] at e;cases e;exact ⟨up 5 (by decide),_,d5⟩
  rw [put_ne q5] at e
  by_cases q4:b=L + 4
  ·subst q4;rw [put_self] at e;cases e;exact ⟨up 4 (by decide),_,d4⟩
  rw [put_ne q4] at e
  by_cases q3:b=L + 3
  ·subst q3;rw [put_self] at e;cases e;exact ⟨up 3 (by decide),_,d3⟩
  rw [put_ne q3] at e
  by_cases q2:b=L + 2
  ·subst q2;rw [put_self] at e;cases e;exact ⟨up 2 (by decide),_,d2⟩
  rw [put_ne q2] at e
  by_cases q1:b=L + 1
  ·subst q1;rw [put_self] at e;cases e;exact ⟨up 1 (by decide),_,d1⟩
  rw [put_ne q1] at e;cases e
 have eu:r=un (λ_=>none) r:=by
  funext b
  unfold un;cases r b <;> rfl
 rw [eu] at S6;obtain ⟨h1,h2,S7⟩:=hideC S6 (λ_ _ _=>rfl) λb o e=>(rget b o e).2
 have C:CellsL B r L (some (.ref lS)) v2 v3 v4 v5 v6:=by
  refine ⟨λb o e=>bn _ (rget b o e).1,λb o e=>(rget b o e).2,⟨o1,?_,d1⟩,⟨o2,?_,d2⟩,⟨o3,?_,d3⟩,⟨o4,?_,d4⟩,⟨o5,?_,d5⟩,⟨o6,?_,d6⟩⟩ <;> rw [hr]
  ·rw [put_ne (ne 1 6 (by decide)),put_ne (ne 1 5 (by decide)),put_ne (ne 1 4 (by decide)),put_ne (ne 1 3 (by decide)),put_ne (ne 1 2 (by decide)),put_self]
  ·rw [put_ne (ne 2 6 (by decide)),put_ne (ne 2 5 (by decide)),put_ne (ne 2 4 (by decide)),put_ne (ne 2 3 (by decide)),put_self]
  ·rw [put_ne (ne 3 6 (by decide)),put_ne (ne 3 5 (by decide)),put_ne (ne 3 4 (by decide)),put_self]
  ·rw [put_ne (ne 4 6 (by decide)),put_ne (ne 4 5 (by decide)),put_self]
  ·rw [put_ne (ne 5 6 (by decide)),put_self]
  ·rw [put_self]
 obtain ⟨oS,hS1,hS2,n,hS4⟩:=hS;refine z1 ?_;refine law_all hP _ _ _ hb S7 rfl ⟨by show 1 + claimMargin + 1 + 20 < 400;decide,by show 4 + 3 + 16 * 20 < 8000;decide⟩ (by show 4 + 3 < 8000;decide) rfl C ⟨oS,?_,?_⟩ hI hlen Q λs' m' F' S'=>?_
 ·rw [hbase,hS1];rfl
 ·exact λh e=>⟨oS,e,hS2,n,hS4⟩
 ·refine h s' ⟨m',S'.ns,λb o e=>S'.ov b (.ex o) (by rw [hbase,e];rfl),F.above⟩ (S'.kp.os.trans hos) S'.kp.gens ?_;refine gq λ_ z2=>?_;obtain ⟨ps,q1,_⟩:=S'.kp.t1;obtain ⟨ps2,q2,_⟩:=S'.kp.t2;refine z2 ?_;exact ⟨⟨ps,q1⟩,⟨ps2,q2⟩,trivial⟩
end
theorem law_holds (hP:∀ cs:List Int,cs.length=7->Mine.PlainOk cs):PySem.Challenge.rw_rt0098_01.Holds:=by
 w_on;refine holds_law said λsaid=>?_
 refine holds_open (q:=kq) (loose:=lo4) (Xt:=λs=>xlAt kq [] s && recOk (RowW.records R4.toRowW) s) (XP:=XL kq []) (Yf:=Hook.obs (kmHook kK kAs kAs_eq [321,293])) (Ya:=Hook.val (kmHook kK kAs kAs_eq [321,293])) (YP:=Hook.says (kmHook kK kAs kAs_eq [321,293])) (N:=4980) hl4 (Hook.of (kmHook kK kAs kAs_eq [321,293])) (Hook.keeps (kmHook kK kAs kAs_eq [321,293])) (λs e=>xl_of s (Bool.and_eq_true_iff.mp e).1) XL.keeps (by rfl) (by rfl) (by rfl) (λs e=>recFacts_of (Bool.and_eq_true_iff.mp e).2) (by rfl) (by first|assumption|decide +kernel) (by decide +kernel) ⟨rfl,rfl,rfl,rfl,rfl,by decide +kernel⟩ ?hw ?hc
 case hw=>w_witness2
 k_go0
 have X9:=‹(Mine.HF _).In _›;have T9:=‹Top topProg _ _ _ _ _›;have F9:=‹Fr _ _ _ _›;have N9:=‹News _ _ _ _›;have l9:=‹321 < _∧293 < _›;have c1:=‹CodeHd _ 323 321›;have c2:=‹CodeHd _ 297 293›;have sm:=(‹Top kq _ _ _ _ _›.seer Mine.noImports).mods;have tb:=‹TabsAt _ _›;have hI:=‹IntsAre _ _›;have hl:=‹(ghostOf _ _).IsList _ _›;have k1:=(N9 _ (.tail _ (.tail _ (.tail _ (.tail _ (.tail _ (.head _))))))).1;have k2:=(N9 _ (.tail _ (.tail _ (.tail _ (.tail _ (.head _)))))).1;have k3:=(N9 _ (.tail _ (.tail _ (.tail _ (.head _))))).1;have k4:=(N9 _ (.tail _ (.tail _ (.head _)))).1;have k5:=(N9 _ (.tail _ (.head _))).1;have k6:=(N9 _ (.head _)).1;have n1:=(N9 _ (.tail _ (.tail _ (.tail _ (.tail _ (.tail _ (.tail _ (.head _)))))))).1;have n2:=(N9 _ (.tail _ (.tail _ (.tail _ (.tail _ (.tail _ (.tail _ (.tail _ (.head _))))))))).1;refine Mine.law_top (v2:=none) (v3:=none) (v4:=none) (v5:=none) (v6:=none) hP X9 T9 ?sm F9 c1 c2 ?e1 ?e2 n1 n2 l9.1 l9.2 ‹_› k1 k2 k3 k4 k5 k6 ?d1 ?d2 ?d3 ?d4 ?d5 ?d6 hl hI ?len _ _ _ (by rfl) _ ?fin
 case d1=>assumption
 case d2=>assumption
 case d3=>assumption
 case d4=>assumption
 case d5=>assumption
 case d6=>assumption
 case len=>omega
 case e1=>exact (N9 _ (.tail _ (.tail _ (.tail _ (.tail _ (.tail _ (.tail _ (.head _)))))))).2.2
 case e2=>exact (N9 _ (.tail _ (.tail _ (.tail _ (.tail _ (.tail _ (.tail _ (.tail _ (.head _))))))))).2.2
 case sm=>
  obtain ⟨mm,h,_⟩:=sm;obtain ⟨o,_,_,e,_⟩:=ghost_ns tb h;exact ⟨o,e⟩
 case fin=>
  rintro s' ⟨m',F'⟩ hos hg hgr;refine ⟨goodW_bool F' hg (λ_=>rfl) ?_ hos,hgr⟩
  first|wrow_post|kc_post
theorem nodup_len {α:Type} [DecidableEq α]:∀ {l k:List α},l.Nodup->(∀ x∈l,x∈k)->l.length≤k.length
 |[],_,_,_=>Nat.zero_le _
 |x :: l,k,hn,hs=>by
  rw [List.nodup_cons] at hn;have hx:=hs x (.head _);have h2:∀ y∈l,y∈k.erase x:=λy hy=>(List.mem_erase_of_ne (by rintro rfl;exact hn.1 hy)).mpr (hs y (.tail _ hy));have:=nodup_len hn.2 h2;rw [List.length_erase_of_mem hx] at this;have:=List.length_pos_of_mem hx;rw [List.length_cons];exact om177 ‹_› this
noncomputable def mk (N:List Str) (np:Str->Int) (sc:Str->List Str):List PN:=N.map λn=>(n,np n,sc n)
noncomputable def addN (N:List Str) (n:Str):List Str:=if n∈N then N else N ++ [n]
noncomputable def setF {α:Type} (f:Str->α) (n:Str) (v:α):Str->α:=λy=>if y=n then v else f y
theorem mk_names (N:List Str) (np:Str->Int) (sc:Str->List Str):(mk N np sc).map (·.1)=N:=by
 unfold mk;rw [List.map_map];exact List.map_id'' (λ_=>rfl) N
theorem mk_getN {N:List Str} {np:Str->Int} {sc:Str->List Str} {n:Str} (h1:n∉N->np n=0) (h2:n∉N->sc n=[]):getN (mk N np sc) n=mk (addN N n) np sc:=by
 unfold getN addN;rw [mk_names]
 by_cases q:n∈N
 ·rw [if_pos q,if_pos q]
 ·rw [if_neg q,if_neg q];unfold mk;rw [List.map_append,List.map_singleton,h1 q,h2 q]
theorem mk_inc {N:List Str} {np:Str->Int} {sc:Str->List Str} {n:Str} {k:Int}:mapP (mk N np sc) n (incP k)=mk N (setF np n (np n + k)) sc:=by
 unfold mapP mk setF incP;rw [List.map_map];refine List.map_congr_left λy _=>?_;simp only [Function.comp]
 split
 ·rename_i e;subst e;rfl
 ·rfl
theorem mk_set {N:List Str} {np:Str->Int} {sc:Str->List Str} {n:Str} {k:Int}:mapP (mk N np sc) n (setP k)=mk N (setF np n k) sc:=by
 unfold mapP mk setF setP;rw [List.map_map];refine List.map_congr_left λy _=>?_;simp only [Function.comp]
 split <;> rfl
theorem mk_suc {N:List Str} {np:Str->Int} {sc:Str->List Str} {n a:Str}:mapP (mk N np sc) n (sucP a)=mk N np (setF sc n (sc n ++ [a])):=by
 unfold mapP mk setF sucP;rw [List.map_map];refine List.map_congr_left λy _=>?_;simp only [Function.comp]
 split
 ·rename_i e;subst e;rfl
 ·rfl
theorem mem_addN {N:List Str} {n y:Str}:y∈addN N n↔y∈N∨y=n:=by
 unfold addN
 split
 ·rename_i h;exact ⟨.inl,λq=>q.elim id λe=>e▸h⟩
 ·rw [List.mem_append,List.mem_singleton]
theorem nodup_addN {N:List Str} {n:Str} (h:N.Nodup):(addN N n).Nodup:=by
 unfold addN
 split
 ·exact h
 ·rename_i q
  rw [List.nodup_append];exact ⟨h,by simp,λa ha b hb=>by cases List.mem_singleton.mp hb;rintro rfl;exact q ha⟩
theorem mk_add {N:List Str} {np:Str->Int} {sc:Str->List Str} {a b:Str} (h1:∀ n,n∉N->np n=0) (h2:∀ n,n∉N->sc n=[]):addP (mk N np sc) a b=mk (addN (addN N a) b) (setF np a (np a + 1)) (setF sc b (sc b ++ [a])):=by
 unfold addP;rw [mk_getN (h1 a) (h2 a),mk_inc,mk_getN ?_ ?_,mk_suc]
 ·intro q;have q2:b≠a:=by rintro rfl;exact q (mem_addN.mpr (.inr rfl))
  unfold setF;rw [if_neg q2];exact h1 b λh=>q (mem_addN.mpr (.inl h))
 ·intro q;exact h2 b λh=>q (mem_addN.mpr (.inl h))
noncomputable def np0 (tbl:List (Str×Str)) (n:Str):Int:=(tbl.filter λp=>decide (p.2=n)).length
noncomputable def sc0 (tbl:List (Str×Str)) (n:Str):List Str:=(tbl.filter λp=>decide (p.1=n)).map (·.2)
noncomputable def nn0 (tbl:List (Str×Str)):List Str:=tbl.foldl (λN p=>addN (addN N p.2) p.1) []
theorem nn0_snoc (l:List (Str×Str)) (p:Str×Str):nn0 (l ++ [p])=addN (addN (nn0 l) p.2) p.1:=by unfold nn0;rw [List.foldl_append];rfl
theorem snoc_ind {α:Type} {P:List α->Prop} (h0:P []) (h1:∀ l x,P l->P (l ++ [x])) (l:List α):P l:=by
 have:∀ n (l:List α),l.length=n->P l:=by
  intro n
  induction n with
  |zero=>intro l h;rw [List.length_eq_zero_iff.mp h];exact h0
  |succ n ih=>
   intro l h;rcases List.eq_nil_or_concat l with rfl|⟨k,x,rfl⟩
   ·exact h0
   ·rw [List.concat_eq_append] at h ⊢;exact h1 k x (ih k (by simpa using h))
 exact this _ l rfl
theorem mem_nn0 (tbl:List (Str×Str)):∀ y,y∈nn0 tbl↔∃ p∈tbl,p.1=y∨p.2=y:=by
 induction tbl using snoc_ind with
 |h0=>intro y;simp [nn0]
 |h1 l p ih=>
  intro y;rw [nn0_snoc,mem_addN,mem_addN,ih]
  constructor
  ·rintro ((⟨q,h1,h2⟩|rfl)|rfl)
   ·exact ⟨q,by simp [h1],h2⟩
   ·exact ⟨p,by simp,.inr rfl⟩
   ·exact ⟨p,by simp,.inl rfl⟩
  ·rintro ⟨q,h1,h2⟩;rcases List.mem_append.mp h1 with h1|h1
   ·exact .inl (.inl ⟨q,h1,h2⟩)
   ·cases List.mem_singleton.mp h1;rcases h2 with rfl|rfl
    ·exact .inr rfl
    ·exact .inl (.inr rfl)
theorem nodup_nn0 (tbl:List (Str×Str)):(nn0 tbl).Nodup:=by
 induction tbl using snoc_ind with
 |h0=>exact List.nodup_nil
 |h1 l p ih=>rw [nn0_snoc];exact nodup_addN (nodup_addN ih)
theorem len_nn0 (tbl:List (Str×Str)):(nn0 tbl).length≤2 * tbl.length:=by
 have h (N:List Str) (n:Str):(addN N n).length≤N.length + 1:=by unfold addN;split <;> simp
 induction tbl using snoc_ind with
 |h0=>exact Nat.le_refl _
 |h1 l p ih=>
  rw [nn0_snoc,List.length_append,List.length_singleton];have:=h (addN (nn0 l) p.2) p.1;have:=h (nn0 l) p.2;exact om178 ih ‹_› this
theorem adds_mk (tbl:List (Str×Str)):addsP tbl=mk (nn0 tbl) (np0 tbl) (sc0 tbl):=by
 induction tbl using snoc_ind with
 |h0=>rfl
 |h1 l p ih=>
  have h1:∀ n,n∉nn0 l->np0 l n=0:=λn hn=>by
   unfold np0;rw [List.filter_eq_nil_iff.mpr];rfl;intro q hq e;exact hn ((mem_nn0 l n).mpr ⟨q,hq,.inr (by simpa using e)⟩)
  have h2:∀ n,n∉nn0 l->sc0 l n=[]:=λn hn=>by
   unfold sc0;rw [List.filter_eq_nil_iff.mpr];rfl;intro q hq e;exact hn ((mem_nn0 l n).mpr ⟨q,hq,.inl (by simpa using e)⟩)
  rw [addsP_snoc,ih,mk_add h1 h2,nn0_snoc]
  congr 1
  ·funext y
   unfold setF np0;rw [List.filter_append,List.length_append]
   by_cases q:y=p.2
   ·subst q;simp
   ·rw [if_neg q];simp [Ne.symm q]
  ·funext y
   unfold setF sc0;rw [List.filter_append,List.map_append]
   by_cases q:y=p.1
   ·subst q;simp
   ·rw [if_neg q];simp [Ne.symm q]
theorem mk_ready (N:List Str) (np:Str->Int) (sc:Str->List Str):ready0 (mk N np sc)=N.filter λn=>decide (np n=0):=by
 unfold ready0 mk;rw [List.filter_map,List.map_map];exact List.map_id'' (λ_=>rfl) _
theorem mk_getReady (N:List Str) (sc:Str->List Str):∀ (rdy:List Str) (np:Str->Int),getReadyP (mk N np sc) rdy=mk N (λy=>if y∈rdy then -1 else np y) sc
 |[],np=>by unfold getReadyP;simp
 |n :: r,np=>by
  show getReadyP (mapP (mk N np sc) n (setP (-1))) r=_;rw [mk_set,mk_getReady N sc r]
  congr 1
  funext y
  unfold setF
  by_cases q:y∈r
  ·simp [q]
  ·by_cases q2:y=n
   ·simp [q2]
   ·simp [q,q2]
theorem mk_find {N:List Str} {np:Str->Int} {sc:Str->List Str} {n:Str} (h:n∈N):pfind (mk N np sc) n=some (n,np n,sc n):=by
 unfold pfind mk;rw [List.find?_map]
 have:N.find? ((λp:PN=>decide (p.1=n)) ∘ λn=>(n,np n,sc n))=some n:=by
  have h1:(N.find? λy=>decide (y=n)).isSome=true:=by rw [List.find?_isSome];exact ⟨n,h,by simp⟩
  obtain ⟨y,hy⟩:=Option.isSome_iff_exists.mp h1;have:y=n:=by simpa using List.find?_some hy
  subst this;exact hy
 rw [this];rfl
theorem mk_step {N:List Str} {np:Str->Int} {sc:Str->List Str} {n:Str} {acc:List Str} (h:n∈N):stepS (mk N np sc,acc) n=some (mk N (setF np n (np n - 1)) sc,if np n - 1=0 then acc ++ [n] else acc):=by
 unfold stepS;simp only [mk_find h,mk_inc]
 rfl
theorem mk_done {N:List Str} {np:Str->Int} {sc:Str->List Str} {n:Str} {acc:List Str} (h:n∈N) (h1:np n=-1):doneOne (mk N np sc,acc) n=(sc n).foldlM stepS (mk N (setF np n (-2)) sc,acc):=by
 unfold doneOne;simp only [mk_find h,h1,if_pos,mk_set]
noncomputable def cnt (tbl:List (Str×Str)) (D:List Str) (n:Str):Nat:=(tbl.filter λp=>decide (p.2=n) && !decide (p.1∈D)).length
noncomputable def npD (tbl:List (Str×Str)) (D P:List Str) (n:Str):Int:=if n∈D then -2 else if n∈P then -1 else cnt tbl D n
theorem cnt_zero {tbl:List (Str×Str)} {D:List Str} {n:Str}:cnt tbl D n=0↔∀ p∈tbl,p.2=n->p.1∈D:=by
 unfold cnt;rw [List.length_eq_zero_iff,List.filter_eq_nil_iff]
 constructor
 ·intro h p hp e;have:=h p hp
  simpa [e] using this
 ·intro h p hp
  by_cases e:p.2=n
  ·simp [e,h p hp e]
  ·simp [e]
theorem cnt_other {tbl:List (Str×Str)} {D:List Str} {m n:Str} (h:∀ p∈tbl,p.1=m->p.2≠n):cnt tbl (m :: D) n=cnt tbl D n:=by
 unfold cnt
 congr 1
 refine List.filter_congr λp hp=>?_
 by_cases e:p.2=n
 ·have:p.1≠m:=λe1=>h p hp e1 e;simp [e,this]
 ·simp [e]
theorem cnt_succ {n m:Str} {D:List Str} (hm:m∉D):∀ {tbl:List (Str×Str)},(tbl.map (·.1)).Nodup->(m,n)∈tbl->cnt tbl D n=cnt tbl (m :: D) n + 1
 |[],_,h=>nomatch h
 |p :: r,nd,h=>by
  rw [List.map_cons,List.nodup_cons] at nd;rcases List.mem_cons.mp h with rfl|h
  ·have h1:cnt r (m :: D) n=cnt r D n:=cnt_other λq hq e _=>nd.1 (List.mem_map.mpr ⟨q,hq,e⟩);have h2:cnt ((m,n) :: r) D n=cnt r D n + 1:=by unfold cnt;rw [List.filter_cons_of_pos (by simp [hm])];rfl
   have h3:cnt ((m,n) :: r) (m :: D) n=cnt r (m :: D) n:=by unfold cnt;rw [List.filter_cons_of_neg (by simp)]
   rw [h2,h3,h1]
  ·have ih:=cnt_succ hm nd.2 h;have hp:p.1≠m:=λe=>nd.1 (List.mem_map.mpr ⟨(m,n),h,e.symm⟩)
   by_cases q:p.2=n∧p.1∉D
   ·have h2:cnt (p :: r) D n=cnt r D n + 1:=by unfold cnt;rw [List.filter_cons_of_pos (by simp [q])];rfl
    have h3:cnt (p :: r) (m :: D) n=cnt r (m :: D) n + 1:=by unfold cnt;rw [List.filter_cons_of_pos (by simp [q,hp])];rfl
    exact om179 ih h2 h3
   ·have q1:p.2=n->p.1∈D:=λa=>Classical.byContradiction λb=>q ⟨a,b⟩
    have h2:cnt (p :: r) D n=cnt r D n:=by
     unfold cnt;rw [List.filter_cons_of_neg (by simpa using q1)]
    have h3:cnt (p :: r) (m :: D) n=cnt r (m :: D) n:=by
     unfold cnt;rw [List.filter_cons_of_neg (by simpa using λa _=>q1 a)]
    exact om180 ih h2 h3
theorem sc0_key {n y:Str}:∀ {tbl:List (Str×Str)},(tbl.map (·.1)).Nodup->(n,y)∈tbl->sc0 tbl n=[y]
 |[],_,h=>nomatch h
 |p :: r,nd,h=>by
  rw [List.map_cons,List.nodup_cons] at nd;rcases List.mem_cons.mp h with rfl|h
  ·unfold sc0;rw [List.filter_cons_of_pos (by simp),List.filter_eq_nil_iff.mpr λq hq e=>nd.1 (List.mem_map.mpr ⟨q,hq,by simpa using e⟩)]
   rfl
  ·have hp:p.1≠n:=λe=>nd.1 (List.mem_map.mpr ⟨(n,y),h,e.symm⟩);have:=sc0_key nd.2 h;unfold sc0 at this ⊢;rw [List.filter_cons_of_neg (by simp [hp])];exact this
theorem sc0_none {n:Str} {tbl:List (Str×Str)} (h:n∉tbl.map (·.1)):sc0 tbl n=[]:=by
 unfold sc0;rw [List.filter_eq_nil_iff.mpr λq hq e=>h (List.mem_map.mpr ⟨q,hq,by simpa using e⟩)]
 rfl
structure LapI (tbl:List (Str×Str)) (D P acc:List Str):Prop where
 pn:P.Nodup
 pN:∀ y∈P,y∈nn0 tbl
 pd:∀ y∈P,y∉D
 z:∀ y,y∈D∨y∈P->cnt tbl D y=0
 an:acc.Nodup
 ac:∀ y,y∈acc↔y∈nn0 tbl∧y∉D∧y∉P∧cnt tbl D y=0
theorem lap_one {tbl:List (Str×Str)} {D P acc:List Str} {m:Str} (nd:(tbl.map (·.1)).Nodup) (I:LapI tbl D (m :: P) acc) :
  ∃ acc',doneOne (mk (nn0 tbl) (npD tbl D (m :: P)) (sc0 tbl),acc) m=some (mk (nn0 tbl) (npD tbl (m :: D) P) (sc0 tbl),acc')∧LapI tbl (m :: D) P acc':=by
 have hmN:=I.pN m (.head _);have hmD:=I.pd m (.head _);have hnp:npD tbl D (m :: P) m=-1:=by unfold npD;rw [if_neg hmD,if_pos (.head _)]
 have pn:=I.pn;rw [List.nodup_cons] at pn
 have mono:∀ y,cnt tbl D y=0->cnt tbl (m :: D) y=0:=λy h=>by
  rw [cnt_zero] at h ⊢;exact λp hp e=>.tail _ (h p hp e)
 have hz:∀ y,y∈m :: D∨y∈P->cnt tbl (m :: D) y=0:=λy hy=>mono y (I.z y (by
  rcases hy with h|h
  ·rcases List.mem_cons.mp h with rfl|h
   ·exact .inr (.head _)
   ·exact .inl h
  ·exact .inr (.tail _ h)))
 rw [mk_done hmN hnp]
 by_cases hk:m∈tbl.map (·.1)
 ·obtain ⟨⟨m',f⟩,hp,e⟩:=List.mem_map.mp hk;change m'=m at e;subst e;rw [sc0_key nd hp];have hc:=cnt_succ hmD nd hp;have hfD:f∉D:=λh=>by have:=I.z f (.inl h);exact om181 hc this
  have hfP:f∉m' :: P:=λh=>by have:=I.z f (.inr h);exact om181 hc this
  have hfm:f≠m':=λe=>hfP (e▸.head _);have hfN:f∈nn0 tbl:=(mem_nn0 tbl f).mpr ⟨_,hp,.inr rfl⟩
  have huniq:∀ p∈tbl,p.1=m'->p.2=f:=λp hpt e=>by
   have h1:=sc0_key nd (n:=p.1) (y:=p.2) hpt;rw [e,sc0_key nd hp] at h1;exact (List.cons.inj h1).1.symm
  have hnf:npD tbl D (m' :: P) f=cnt tbl D f:=by unfold npD;rw [if_neg hfD,if_neg hfP]
  have hst:(setF (setF (npD tbl D (m' :: P)) m' (-2)) f ((setF (npD tbl D (m' :: P)) m' (-2)) f - 1))=npD tbl (m' :: D) P:=by
   funext y
   unfold setF
   by_cases q:y=f
   ·subst q;rw [if_pos rfl,if_neg hfm,hnf];unfold npD;have w1:y∉m' :: D:=by simp [hfD,hfm]
    have w2:y∉P:=λh=>hfP (.tail _ h);simp only [w1,w2,if_false,hc];exact om182
   ·rw [if_neg q]
    by_cases q2:y=m'
    ·subst q2;rw [if_pos rfl];unfold npD;rw [if_pos (.head _)]
    ·rw [if_neg q2];unfold npD;have hco:cnt tbl (m' :: D) y=cnt tbl D y:=cnt_other λp hpt e e2=>q (e2▸huniq p hpt e);simp only [List.mem_cons,q2,false_or,hco]
  refine ⟨_,by rw [List.foldlM_cons,mk_step hfN,hst];rfl,pn.2,λy hy=>I.pN y (.tail _ hy),λy hy h=>?_,hz,?_,?_⟩
  ·rcases List.mem_cons.mp h with rfl|h
   ·exact pn.1 hy
   ·exact I.pd y (.tail _ hy) h
  ·split
   ·rw [List.nodup_append];refine ⟨I.an,by simp,λa ha b hb=>?_⟩;cases List.mem_singleton.mp hb;rintro rfl;have:=(I.ac a).mp ha
    omega
   ·exact I.an
  ·intro y;have h2:(setF (npD tbl D (m' :: P)) m' (-2)) f=cnt tbl D f:=by unfold setF;rw [if_neg hfm,hnf]
   rw [h2]
   have key:y∈(if (cnt tbl D f:Int) - 1=0 then acc ++ [f] else acc)↔y∈acc∨(y=f∧cnt tbl (m' :: D) f=0):=by
    split
    ·rw [List.mem_append,List.mem_singleton]
     constructor
     ·exact λh=>h.imp id λe=>⟨e,by exact om183 hc hnf h2 ‹_›⟩
     ·exact λh=>h.imp id λe=>e.1
    ·constructor
     ·exact .inl
     ·rintro (h|⟨_,h⟩)
      ·exact h
      ·omega
   rw [key,I.ac y]
   by_cases q:y=f
   ·subst q
    constructor
    ·rintro (h|h)
     ·omega
     ·exact ⟨hfN,by simp [hfD,hfm],λh=>hfP (.tail _ h),h.2⟩
    ·exact λh=>.inr ⟨rfl,h.2.2.2⟩
   ·have hco:cnt tbl (m' :: D) y=cnt tbl D y:=cnt_other λp hpt e e2=>q (e2▸huniq p hpt e);rw [hco]
    constructor
    ·rintro (⟨a,b,c,d⟩|h)
     ·rw [List.mem_cons,not_or] at c;exact ⟨a,by simp [b,c.1],c.2,d⟩
     ·exact absurd h.1 q
    ·rintro ⟨a,b,c,d⟩;rw [List.mem_cons,not_or] at b;exact .inl ⟨a,b.2,by simp [b.1,c],d⟩
 ·rw [sc0_none hk];have hno:∀ y,cnt tbl (m :: D) y=cnt tbl D y:=λy=>cnt_other λp hpt e _=>hk (List.mem_map.mpr ⟨p,hpt,e⟩)
  have hst:setF (npD tbl D (m :: P)) m (-2)=npD tbl (m :: D) P:=by
   funext y
   unfold setF
   by_cases q2:y=m
   ·subst q2;rw [if_pos rfl];unfold npD;rw [if_pos (.head _)]
   ·rw [if_neg q2];unfold npD;rw [hno];simp [q2]
  refine ⟨acc,by rw [List.foldlM_nil,hst];rfl,pn.2,λy hy=>I.pN y (.tail _ hy),λy hy h=>?_,hz,I.an,λy=>?_⟩
  ·rcases List.mem_cons.mp h with rfl|h
   ·exact pn.1 hy
   ·exact I.pd y (.tail _ hy) h
  ·rw [I.ac y,hno]
   constructor
   ·rintro ⟨a,b,c,d⟩;rw [List.mem_cons,not_or] at c;exact ⟨a,by simp [b,c.1],c.2,d⟩
   ·rintro ⟨a,b,c,d⟩;rw [List.mem_cons,not_or] at b;exact ⟨a,b.2,by simp [b.1,c],d⟩
theorem lap_all {tbl:List (Str×Str)} (nd:(tbl.map (·.1)).Nodup):∀ {P D acc:List Str},LapI tbl D P acc ->
  ∃ acc',P.foldlM doneOne (mk (nn0 tbl) (npD tbl D P) (sc0 tbl),acc)=some (mk (nn0 tbl) (npD tbl (P.reverse ++ D) []) (sc0 tbl),acc')∧LapI tbl (P.reverse ++ D) [] acc'
 |[],D,acc,I=>⟨acc,rfl,I⟩
 |m :: P,D,acc,I=>by
  obtain ⟨a1,h1,I1⟩:=lap_one nd I;obtain ⟨a2,h2,I2⟩:=lap_all nd I1;have e:(m :: P).reverse ++ D=P.reverse ++ (m :: D):=by simp
  rw [e];exact ⟨a2,by rw [List.foldlM_cons,h1];exact h2,I2⟩
noncomputable def Hh (tbl:List (Str×Str)):Nat->Str->Prop
 |0,_=>True
 |t + 1,y=>∃ p∈tbl,p.2=y∧Hh tbl t p.1
theorem Hh.down {tbl:List (Str×Str)}:∀ {t:Nat} {y:Str},Hh tbl (t + 1) y->Hh tbl t y
 |0,_,_=>trivial
 |t + 1,y,⟨p,h1,h2,h3⟩=>⟨p,h1,h2,Hh.down h3⟩
structure LapT (tbl:List (Str×Str)) (t:Nat) (D P:List Str):Prop where
 d:∀ y,y∈D↔y∈nn0 tbl∧¬ Hh tbl t y
 pn:P.Nodup
 p:∀ y,y∈P↔y∈nn0 tbl∧Hh tbl t y∧¬ Hh tbl (t + 1) y
theorem not_H_succ {tbl:List (Str×Str)} {t:Nat} {D:List Str} (hd:∀ y,y∈D↔y∈nn0 tbl∧¬ Hh tbl t y) {y:Str}:cnt tbl D y=0↔¬ Hh tbl (t + 1) y:=by
 rw [cnt_zero]
 constructor
 ·rintro h ⟨p,h1,h2,h3⟩;exact ((hd p.1).mp (h p h1 h2)).2 h3
 ·intro h p h1 h2;exact (hd p.1).mpr ⟨(mem_nn0 tbl p.1).mpr ⟨p,h1,.inl rfl⟩,λh3=>h ⟨p,h1,h2,h3⟩⟩
theorem lap_next {tbl:List (Str×Str)} (nd:(tbl.map (·.1)).Nodup) (hz:tbl.length≤20) {t:Nat} {D P:List Str} (I:LapT tbl t D P) :
  Ex2 λD' P'=>lapP (mk (nn0 tbl) (npD tbl D []) (sc0 tbl),P)=some (mk (nn0 tbl) (npD tbl D' []) (sc0 tbl),P')∧LapT tbl (t + 1) D' P':=by
 have hpN:∀ y∈P,y∈nn0 tbl:=λy hy=>((I.p y).mp hy).1;have hpD:∀ y∈P,y∉D:=λy hy h=>((I.d y).mp h).2 ((I.p y).mp hy).2.1;have hcz:∀ y,cnt tbl D y=0↔¬ Hh tbl (t + 1) y:=λy=>not_H_succ I.d
 have hI:LapI tbl D P []:=by
  refine ⟨I.pn,hpN,hpD,λy hy=>?_,List.nodup_nil,λy=>?_⟩
  ·rw [hcz];rcases hy with h|h
   ·exact λh2=>((I.d y).mp h).2 h2.down
   ·exact ((I.p y).mp h).2.2
  ·constructor
   ·intro h;cases h
   ·rintro ⟨a,b,c,d⟩;rw [hcz] at d
    exfalso
    refine c ((I.p y).mpr ⟨a,?_,d⟩);exact Classical.byContradiction λh=>b ((I.d y).mpr ⟨a,h⟩)
 obtain ⟨acc,h1,h2⟩:=lap_all nd hI;refine ⟨P.reverse ++ D,acc,?_,?_⟩
 ·unfold lapP
  have hn:(λy=>if y∈P then (-1:Int) else npD tbl D [] y)=npD tbl D P:=by
   funext y
   unfold npD
   by_cases q:y∈P
   ·simp [q,hpD y q]
   ·simp [q]
  have len:P.length≤60:=by
   have:=nodup_len I.pn hpN;have:=len_nn0 tbl;exact om184 hz ‹_› this
  simp only [mk_getReady,hn,mk_names]
  have hsc:∀ p∈mk (nn0 tbl) (npD tbl D P) (sc0 tbl),p.2.2.length≤100:=by
   intro p hp;unfold mk at hp;obtain ⟨n,_,rfl⟩:=List.mem_map.mp hp;show (sc0 tbl n).length≤100;unfold sc0;rw [List.length_map];have:=List.length_filter_le (λp:Str×Str=>decide (p.1=n)) tbl;exact n_t ‹_› (n_t ‹_› (by decide))
  rw [if_pos ⟨len,hpN,hsc⟩];exact h1
 ·have hd':∀ y,y∈P.reverse ++ D↔y∈nn0 tbl∧¬ Hh tbl (t + 1) y:=λy=>by
   rw [List.mem_append,List.mem_reverse,I.p,I.d]
   constructor
   ·rintro (⟨a,b,c⟩|⟨a,b⟩)
    ·exact ⟨a,c⟩
    ·exact ⟨a,λh=>b h.down⟩
   ·rintro ⟨a,b⟩
    by_cases q:Hh tbl t y
    ·exact .inl ⟨a,q,b⟩
    ·exact .inr ⟨a,q⟩
  refine ⟨hd',h2.an,λy=>?_⟩;rw [h2.ac,not_H_succ hd',hd']
  constructor
  ·rintro ⟨a,b,_,d⟩;exact ⟨a,Classical.byContradiction λh=>b ⟨a,h⟩,d⟩
  ·rintro ⟨a,b,c⟩;exact ⟨a,λh=>h.2 b,by simp,c⟩
theorem laps_from {tbl:List (Str×Str)} (nd:(tbl.map (·.1)).Nodup) (hz:tbl.length≤20):∀ (n t:Nat) (D P:List Str),LapT tbl t D P ->
  ∃ rds,And3 (lapsP n (mk (nn0 tbl) (npD tbl D []) (sc0 tbl),P)=some rds) (rds.length=n) (∀ i r,rds[i]?=some r->r.Nodup∧∀ y,y∈r↔y∈nn0 tbl∧Hh tbl (t + i) y∧¬ Hh tbl (t + i + 1) y)
 |0,t,D,P,_=>⟨[],rfl,rfl,λi r h=>by simp at h⟩
 |n + 1,t,D,P,I=>by
  obtain ⟨D',P',h1,I'⟩:=lap_next nd hz I;obtain ⟨rds,h2,h3,h4⟩:=laps_from nd hz n (t + 1) D' P' I';refine ⟨P :: rds,?_,by rw [List.length_cons,h3],λi r h=>?_⟩
  ·rw [lapsP_c,h1];exact congrArg (Option.map _) h2
  ·cases i with
   |zero=>cases h;exact ⟨I.pn,I.p⟩
   |succ i=>
    rw [List.getElem?_cons_succ] at h;have:=h4 i r h;rw [show t + 1 + i=t + (i + 1) by exact om185] at this;exact this
theorem laps_ok {tbl:List (Str×Str)} (nd:(tbl.map (·.1)).Nodup) (hz:tbl.length≤20) (n:Nat) :
  ∃ rds,And3 (lapsP n (addsP tbl,ready0 (addsP tbl))=some rds) (rds.length=n) (∀ i r,rds[i]?=some r->r.Nodup∧∀ y,y∈r↔y∈nn0 tbl∧Hh tbl i y∧¬ Hh tbl (i + 1) y):=by
 have h0:npD tbl [] []=np0 tbl:=by
  funext y
  unfold npD np0 cnt;simp
 have I:LapT tbl 0 [] (ready0 (addsP tbl)):=by
  have hd:∀ y,y∈([]:List Str)↔y∈nn0 tbl∧¬ Hh tbl 0 y:=λy=>⟨λh=>(nomatch h),λh=>absurd trivial h.2⟩;rw [adds_mk,mk_ready];refine ⟨hd,(nodup_nn0 tbl).filter _,λy=>?_⟩;rw [List.mem_filter,<-h0]
  constructor
  ·rintro ⟨a,b⟩;refine ⟨a,trivial,(not_H_succ hd).mp ?_⟩;unfold npD at b;simp at b;exact b
  ·rintro ⟨a,_,b⟩;refine ⟨a,?_⟩;have:=(not_H_succ hd).mpr b;unfold npD;simp [this]
 obtain ⟨rds,h1,h2,h3⟩:=laps_from nd hz n 0 [] _ I;refine ⟨rds,?_,h2,λi r h=>?_⟩
 ·rw [h0,<-adds_mk] at h1;exact h1
 ·have:=h3 i r h;rw [Nat.zero_add] at this;exact this
noncomputable def leS (a b:Str):Prop:=a.cps.toList≤b.cps.toList
theorem leS_iff {a b:Str}:Spec.ltCps b.cps.toList a.cps.toList=false↔leS a b:=by
 rw [ltCps_eq,decide_eq_false_iff_not];exact List.not_lt
theorem leS_trans {a b c:Str} (h:leS a b) (k:leS b c):leS a c:=List.le_trans h k
theorem leS_anti {a b:Str} (h:leS a b) (k:leS b a):a=b:=by
 have:=List.le_antisymm h k;cases a;cases b;simp only [Str.mk.injEq];exact Array.toList_inj.mp this
theorem rising_pw:∀ {r:List Str} {x:Str},risingS x r=true->(x :: r).Pairwise leS
 |[],x,_=>List.pairwise_singleton ..
 |y :: r,x,h=>by
  unfold risingS at h;rw [Bool.and_eq_true,Bool.not_eq_true'] at h;have ih:=rising_pw h.2;have hxy:=leS_iff.mp h.1;refine List.pairwise_cons.mpr ⟨λz hz=>?_,ih⟩;rcases List.mem_cons.mp hz with rfl|hz
  ·exact hxy
  ·exact leS_trans hxy ((List.pairwise_cons.mp ih).1 z hz)
theorem sorted_pw {l:List Str} (h:sortedS l=true):l.Pairwise leS:=by
 cases l with
 |nil=>exact .nil
 |cons x r=>exact rising_pw h
theorem pw_sorted {l:List Str} (h:l.Pairwise leS):sortedS l=true:=sortedS_of_pairwise l (h.imp λh=>leS_iff.mpr h)
theorem pw_unique:∀ {l k:List Str},l.Pairwise leS->k.Pairwise leS->l.Perm k->l=k
 |[],k,_,_,p=>(List.nil_perm.mp p).symm
 |a :: l,[],_,_,p=>by simpa using p.length_eq
 |a :: l,b :: k,h1,h2,p=>by
  have ha:a∈b :: k:=p.mem_iff.mp (.head _);have hb:b∈a :: l:=p.mem_iff.mpr (.head _)
  have hab:a=b:=by
   rcases List.mem_cons.mp ha with e|ha
   ·exact e
   ·rcases List.mem_cons.mp hb with e|hb
    ·exact e.symm
    ·exact leS_anti ((List.pairwise_cons.mp h1).1 b hb) ((List.pairwise_cons.mp h2).1 a ha)
  subst hab;rw [pw_unique (List.pairwise_cons.mp h1).2 (List.pairwise_cons.mp h2).2 (p.cons_inv)]
theorem sorted_unique {l k:List Str} (h1:sortedS l=true) (h2:sortedS k=true) (p:l.Perm k):l=k:=pw_unique (sorted_pw h1) (sorted_pw h2) p
theorem perm_of_mem {l k:List Str} (h1:l.Nodup) (h2:k.Nodup) (h:∀ x,x∈l↔x∈k):l.Perm k:=(List.perm_ext_iff_of_nodup h1 h2).mpr h
theorem nm7_nodup:nm7.Nodup:=by decide
theorem nm7_sorted:sortedS nm7=true:=by decide
theorem nm7_ne:∀ x∈nm7,x≠Str.ofString "":=by decide
structure Tab (tbl:List (Str×Str)):Prop where
 kp:(tbl.map (·.1)).Perm nm7
 val:∀ p∈tbl,p.2∈nm7
theorem lookup_of_mem {x y:Str}:∀ {tbl:List (Str×Str)},(tbl.map (·.1)).Nodup->(x,y)∈tbl->tbl.lookup x=some y
 |[],_,h=>nomatch h
 |p :: r,nd,h=>by
  rw [List.map_cons,List.nodup_cons] at nd;rw [List.lookup_cons];rcases List.mem_cons.mp h with rfl|h
  ·simp
  ·have:x≠p.1:=λe=>nd.1 (List.mem_map.mpr ⟨(x,y),h,e⟩);rw [show (x == p.1)=false from beq_eq_false_iff_ne.mpr this];exact lookup_of_mem nd.2 h
theorem mem_of_lookup' {x y:Str}:∀ {tbl:List (Str×Str)},tbl.lookup x=some y->(x,y)∈tbl
 |p :: r,h=>by
  rw [List.lookup_cons] at h
  by_cases e:(x == p.1)=true
  ·rw [e] at h;cases h;rw [beq_iff_eq.mp e];exact .head _
  ·rw [show (x == p.1)=false by simpa using e] at h;exact .tail _ (mem_of_lookup' h)
section
variable {tbl:List (Str×Str)}
theorem Tab.nd (T:Tab tbl):(tbl.map (·.1)).Nodup:=T.kp.symm.nodup nm7_nodup
theorem Tab.len (T:Tab tbl):tbl.length=7:=by have:=T.kp.length_eq;rw [List.length_map] at this;exact this
theorem Tab.at_ (T:Tab tbl) {x:Str} (hx:x∈nm7):∃ y∈nm7,tbl.lookup x=some y:=by
 obtain ⟨p,hp,rfl⟩:=List.mem_map.mp (T.kp.mem_iff.mpr hx);exact ⟨p.2,T.val p hp,lookup_of_mem T.nd hp⟩
theorem Tab.get (T:Tab tbl) {x:Str} (hx:x∈nm7):tget tbl x∈nm7∧(x,tget tbl x)∈tbl:=by
 obtain ⟨y,hy,h⟩:=T.at_ hx;rw [tget_of h];exact ⟨hy,mem_of_lookup' h⟩
theorem Tab.key (T:Tab tbl) {p:Str×Str} (hp:p∈tbl):p.1∈nm7∧tget tbl p.1=p.2:=⟨T.kp.mem_iff.mp (List.mem_map.mpr ⟨p,hp,rfl⟩),tget_of (lookup_of_mem T.nd hp)⟩
theorem Tab.itr (T:Tab tbl) {x:Str} (hx:x∈nm7):∀ t,itr (tget tbl) t x∈nm7
 |0=>hx
 |t + 1=>(T.get (T.itr hx t)).1
theorem Tab.nn (T:Tab tbl) (y:Str):y∈nn0 tbl↔y∈nm7:=by
 rw [mem_nn0]
 constructor
 ·rintro ⟨p,hp,rfl|rfl⟩
  ·exact (T.key hp).1
  ·exact T.val p hp
 ·intro h;exact ⟨_,(T.get h).2,.inl rfl⟩
theorem Tab.H (T:Tab tbl):∀ (t:Nat) (y:Str),y∈nm7->(Hh tbl t y↔∃ x∈nm7,Mine.itr (tget tbl) t x=y)
 |0,y,hy=>⟨λ_=>⟨y,hy,rfl⟩,λ_=>trivial⟩
 |t + 1,y,hy=>by
  constructor
  ·rintro ⟨p,hp,rfl,h⟩;obtain ⟨x,hx,e⟩:=(T.H t p.1 (T.key hp).1).mp h;exact ⟨x,hx,by show tget tbl (Mine.itr _ t x)=_;rw [e];exact (T.key hp).2⟩
  ·rintro ⟨x,hx,rfl⟩;have:=T.itr hx t;exact ⟨_,(T.get this).2,rfl,(T.H t _ this).mpr ⟨x,hx,rfl⟩⟩
theorem itr_add (f:Str->Str) (a:Nat):∀ (b:Nat) (x:Str),Mine.itr f (a + b) x=Mine.itr f b (Mine.itr f a x)
 |0,_=>rfl
 |b + 1,x=>by show f (Mine.itr f (a + b) x)=f _;rw [itr_add f a b x]
theorem itr_mul {f:Str->Str} {q:Nat} {x:Str} (h:Mine.itr f q x=x):∀ k,Mine.itr f (q * k) x=x
 |0=>rfl
 |k + 1=>by rw [Nat.mul_succ,itr_add,itr_mul h k,h]
theorem itr_f (f:Str->Str):∀ (t:Nat) (x:Str),Mine.itr f t (f x)=f (Mine.itr f t x)
 |0,_=>rfl
 |t + 1,x=>by show f _=f _;rw [itr_f f t x];rfl
noncomputable def Rg (f:Str->Str) (x:Str):Prop:=∃ q,1≤q∧Mine.itr f q x=x
theorem Rg.step {f:Str->Str} {x:Str} (h:Rg f x):Rg f (f x):=let ⟨q,h1,h2⟩:=h;⟨q,h1,by rw [itr_f,h2]⟩
theorem Rg.steps {f:Str->Str} {x:Str} (h:Rg f x):∀ t,Rg f (Mine.itr f t x)
 |0=>h
 |t + 1=>(h.steps t).step
theorem Rg.inj {f:Str->Str} {x y:Str} (hx:Rg f x) (hy:Rg f y) (e:f x=f y):x=y:=by
 obtain ⟨q,q1,q2⟩:=hx;obtain ⟨r,r1,r2⟩:=hy;have h1:=itr_mul q2 r;have h2:=itr_mul r2 q;rw [Nat.mul_comm] at h2;have hp:1≤q * r:=Nat.mul_pos q1 r1;rw [show q * r=1 + (q * r - 1) by exact om186 hp,itr_add] at h1 h2;have:Mine.itr f 1 x=Mine.itr f 1 y:=e;rw [this] at h1;exact h1.symm.trans h2
theorem Rg.pre {f:Str->Str} {x:Str} (h:Rg f x):∃ t,f (Mine.itr f t x)=x∧Rg f (Mine.itr f t x):=by
 obtain ⟨q,q1,q2⟩:=id h;refine ⟨q - 1,?_,h.steps _⟩;have:Mine.itr f (q - 1 + 1) x=x:=by rw [Nat.sub_add_cancel q1];exact q2
 exact this
theorem Tab.dup (T:Tab tbl) {x:Str} (hx:x∈nm7):Ex2 λi j=>And3 (i < j) (j≤7) (Mine.itr (tget tbl) i x=Mine.itr (tget tbl) j x):=by
 refine Classical.byContradiction λh=>?_
 have nd:(roadP (tget tbl) 7 x).Nodup:=by
  unfold roadP;rw [List.nodup_iff_pairwise_ne,List.pairwise_map];refine List.Pairwise.imp_of_mem (R:=λa b=>a < b) ?_ List.pairwise_lt_range;intro a b ha hb hab e;exact h ⟨a,b,hab,by have:=List.mem_range.mp hb;exact om187 this,e⟩
 have:=nodup_len (k:=nm7) nd λy hy=>by
  unfold roadP at hy;obtain ⟨t,_,rfl⟩:=List.mem_map.mp hy;exact T.itr hx t
 simp [roadP,nm7] at this
theorem Tab.ringed (T:Tab tbl) {y:Str} (hy:y∈nm7):Hh tbl 7 y↔Rg (tget tbl) y:=by
 rw [T.H 7 y hy]
 constructor
 ·rintro ⟨x,hx,rfl⟩;obtain ⟨i,j,h1,h2,e⟩:=T.dup hx;have hr:Rg (tget tbl) (Mine.itr (tget tbl) i x):=⟨j - i,by exact om188 h1,by rw [<-itr_add,show i + (j - i)=j by exact om189 h1];exact e.symm⟩;have:=hr.steps (7 - i);rw [<-itr_add,show i + (7 - i)=7 by exact om190 h1 h2] at this;exact this
 ·rintro ⟨q,q1,q2⟩;have h1:=itr_mul q2 7;refine ⟨Mine.itr (tget tbl) (q * 7 - 7) y,T.itr hy _,?_⟩;rw [<-itr_add,show q * 7 - 7 + 7=q * 7 by exact om191 q1];exact h1
end
structure TS (T:Str->Option Nat) (S:Str->Nat->Prop):Prop where
 no:∀ y,T y=none->∀ t,¬ S y t
 so:∀ y k,T y=some k->S y k∧∀ t,S y t->t≤k
theorem TS.one {T:Str->Option Nat} {S:Str->Nat->Prop} (h:TS T S) (x:Str) (t:Nat):TS (tallOne T x t) (λy k=>S y k∨(y=x∧k=t)):=by
 refine ⟨λy e=>?_,λy k e=>?_⟩
 ·unfold tallOne at e
  split at e
  ·cases e
  ·rename_i q
   rintro u (hu|⟨hu,_⟩)
   ·exact h.no y e u hu
   ·exact q hu
 ·unfold tallOne at e
  split at e
  ·rename_i q
   subst q
   injection e with e
   subst e;cases hT:T y with
   |none=>
    have hn:=h.no y hT;refine ⟨.inr ⟨rfl,by simp⟩,?_⟩;rintro u (hu|⟨_,rfl⟩)
    ·exact absurd hu (hn u)
    ·simp
   |some k=>
    obtain ⟨h1,h2⟩:=h.so y k hT;simp only [Option.getD_some];refine ⟨?_,?_⟩
    ·rcases Nat.le_total k t with q|q
     ·rw [Nat.max_eq_right q];exact .inr (by simp)
     ·rw [Nat.max_eq_left q];exact .inl h1
    ·rintro u (hu|⟨_,rfl⟩)
     ·exact n_t (h2 u hu) (Nat.le_max_left ..)
     ·exact Nat.le_max_right ..
  ·rename_i q
   obtain ⟨h1,h2⟩:=h.so y k e;refine ⟨.inl h1,?_⟩;rintro u (hu|⟨hu,_⟩)
   ·exact h2 u hu
   ·exact absurd hu q
theorem TS.congr {T:Str->Option Nat} {S S':Str->Nat->Prop} (h:TS T S) (e:∀ y t,S y t↔S' y t):TS T S':=
 ⟨λy hy t ht=>h.no y hy t ((e y t).mpr ht),λy k hk=>⟨(e y k).mp (h.so y k hk).1,λt ht=>(h.so y k hk).2 t ((e y t).mpr ht)⟩⟩
theorem TS.road:∀ (road:List Str) {T:Str->Option Nat} {S:Str->Nat->Prop} (t:Nat),TS T S->TS (tallRoad T t road) (λy k=>S y k∨∃ i,road[i]?=some y∧k=t + i)
 |[],T,S,t,h=>h.congr λy k=>⟨.inl,λq=>q.elim id λ⟨i,hi,_⟩=>by simp at hi⟩
 |x :: r,T,S,t,h=>by
  refine (TS.road r (t + 1) (h.one x t)).congr λy k=>?_
  constructor
  ·rintro ((h|⟨rfl,rfl⟩)|⟨i,hi,rfl⟩)
   ·exact .inl h
   ·exact .inr ⟨0,rfl,rfl⟩
   ·exact .inr ⟨i + 1,hi,by exact om185⟩
  ·rintro (h|⟨i,hi,rfl⟩)
   ·exact .inl (.inl h)
   ·cases i with
    |zero=>cases hi;exact .inl (.inr ⟨rfl,rfl⟩)
    |succ i=>exact .inr ⟨i,hi,by exact om192⟩
theorem road_at {f:Str->Str} {n:Nat} {x y:Str} {i:Nat}:(roadP f n x)[i]?=some y↔i≤n∧itr f i x=y:=by
 unfold roadP;rw [List.getElem?_map]
 constructor
 ·intro h;cases q:(List.range (n + 1))[i]? with
  |none=>rw [q] at h;cases h
  |some j=>
   rw [q] at h;cases h;obtain ⟨h1,h2⟩:=List.getElem?_eq_some_iff.mp q;rw [List.length_range] at h1;rw [List.getElem_range] at h2;subst h2;exact ⟨by exact om193 h1,rfl⟩
 ·rintro ⟨h,rfl⟩;rw [List.getElem?_range (by exact om99 h)];rfl
theorem TS.all (f:Str->Str) (n:Nat):∀ (ks:List Str) {T:Str->Option Nat} {S:Str->Nat->Prop},TS T S->TS (tallAll f n T ks) (λy k=>S y k∨∃ x∈ks,k≤n∧itr f k x=y)
 |[],T,S,h=>h.congr λy k=>⟨.inl,λq=>q.elim id λ⟨x,hx,_⟩=>by simp at hx⟩
 |x :: r,T,S,h=>by
  refine (TS.all f n r (TS.road (roadP f n x) 0 h)).congr λy k=>?_
  constructor
  ·rintro ((h|⟨i,hi,rfl⟩)|⟨z,hz,h⟩)
   ·exact .inl h
   ·have:=road_at.mp hi;rw [Nat.zero_add];exact .inr ⟨x,.head _,this⟩
   ·exact .inr ⟨z,.tail _ hz,h⟩
  ·rintro (h|⟨z,hz,h⟩)
   ·exact .inl (.inl h)
   ·rcases List.mem_cons.mp hz with rfl|hz
    ·exact .inl (.inr ⟨k,road_at.mpr h,by exact om194⟩)
    ·exact .inr ⟨z,hz,h⟩
theorem tall_iff (f:Str->Str) (ks:List Str) (y:Str) (k:Nat):tallAll f 7 (λ_=>none) ks y=some k↔(k≤7∧∃ x∈ks,itr f k x=y)∧∀ t,t≤7->(∃ x∈ks,itr f t x=y)->t≤k:=by
 have h:=TS.all f 7 ks (T:=λ_=>none) (S:=λ_ _=>False) ⟨λ_ _ _ h=>h,λ_ _ h=>nomatch h⟩
 constructor
 ·intro e;obtain ⟨h1,h2⟩:=h.so y k e;obtain ⟨x,hx,h3,h4⟩:=h1.resolve_left id;exact ⟨⟨h3,x,hx,h4⟩,λt ht ⟨z,hz,e⟩=>h2 t (.inr ⟨z,hz,ht,e⟩)⟩
 ·rintro ⟨⟨h1,x,hx,h2⟩,h3⟩;cases e:tallAll f 7 (λ_=>none) ks y with
  |none=>exact absurd (.inr ⟨x,hx,h1,h2⟩) (h.no y e k)
  |some j=>
   obtain ⟨a,b⟩:=h.so y j e;obtain ⟨z,hz,a1,a2⟩:=a.resolve_left id;have:=h3 j a1 ⟨z,hz,a2⟩;have:=b k (.inr ⟨x,hx,h1,h2⟩);rw [show j=k by exact om195 ‹_› this]
theorem dups_nil:∀ {l:List Str},dups l=[]->l.Nodup
 |[],_=>List.nodup_nil
 |x :: r,h=>by
  rw [dups_c] at h
  split at h
  ·cases h
  ·rename_i q
   exact List.nodup_cons.mpr ⟨q,dups_nil h⟩
section
variable {tbl:List (Str×Str)}
theorem Tab.dups (T:Tab tbl) {x:Str} (hx:x∈nm7):dups (roadP (tget tbl) 7 x)≠[]:=λh=>by
 have nd:=dups_nil h;obtain ⟨i,j,h1,h2,e⟩:=T.dup hx;have a:=road_at.mpr ⟨show i≤7 by exact om196 h1 h2,e⟩;have b:=road_at.mpr ⟨h2,(rfl:Mine.itr (tget tbl) j x=_)⟩;have:=(List.getElem?_inj (by rw [roadP_len];exact om197 h1 h2) nd).mp (a.trans b.symm);exact om198 h1 this
theorem Tab.adds (T:Tab tbl) {p:PN} (hp:p∈addsP tbl):p.1∈nm7∧p.2.2=[tget tbl p.1]:=by
 rw [adds_mk] at hp;unfold Mine.mk at hp;obtain ⟨n,hn,rfl⟩:=List.mem_map.mp hp;have h7:=(T.nn n).mp hn;exact ⟨h7,sc0_key T.nd (T.get h7).2⟩
theorem Tab.names (T:Tab tbl) (y:Str):y∈(addsP tbl).map (·.1)↔y∈nm7:=by rw [adds_mk,mk_names,T.nn]
theorem H_split:∀ {n:Nat} {y:Str},¬ Hh tbl n y->∃ i < n,Hh tbl i y∧¬ Hh tbl (i + 1) y
 |0,_,h=>absurd trivial h
 |n + 1,y,h=>by
  by_cases q:Hh tbl n y
  ·exact ⟨n,by exact om199,q,h⟩
  ·obtain ⟨i,h1,h2⟩:=H_split q;exact ⟨i,by exact Nat.lt_succ_of_lt ‹_›,h2⟩
theorem H_le {y:Str} {a:Nat}:∀ {b:Nat},a≤b->Hh tbl b y->Hh tbl a y
 |b,h,hb=>by
  induction b with
  |zero=>rw [Nat.le_zero.mp h];exact hb
  |succ b ih=>
   rcases Nat.le_succ_iff.mp h with q|rfl
   ·exact ih q hb.down
   ·exact hb
noncomputable def RdsOk (tbl:List (Str×Str)) (rds:List (List Str)):Prop:=rds.length=7∧∀ i r,rds[i]?=some r->r.Nodup∧∀ y,y∈r↔y∈nn0 tbl∧Hh tbl i y∧¬ Hh tbl (i + 1) y
theorem RdsOk.mem {rds:List (List Str)} (R:RdsOk tbl rds) (y:Str):y∈rds.flatten↔y∈nn0 tbl∧¬ Hh tbl 7 y:=by
 rw [List.mem_flatten]
 constructor
 ·rintro ⟨r,hr,hy⟩;obtain ⟨i,hi⟩:=List.mem_iff_getElem?.mp hr;obtain ⟨a,b,c⟩:=((R.2 i r hi).2 y).mp hy;have hlt:i < 7:=by rw [<-R.1];exact (List.getElem?_eq_some_iff.mp hi).1
  exact ⟨a,λh=>c (H_le (by exact Nat.succ_le_of_lt ‹_›) h)⟩
 ·rintro ⟨a,b⟩;obtain ⟨i,h1,h2,h3⟩:=H_split b;have hlt:i < rds.length:=by rw [R.1];exact h1
  have hr:rds[i]?=some rds[i]:=List.getElem?_eq_getElem hlt;exact ⟨_,List.mem_of_getElem? hr,((R.2 i _ hr).2 y).mpr ⟨a,h2,h3⟩⟩
theorem RdsOk.nodup {rds:List (List Str)} (R:RdsOk tbl rds):rds.flatten.Nodup:=by
 rw [List.nodup_iff_pairwise_ne,List.pairwise_flatten];refine ⟨λr hr=>?_,?_⟩
 ·obtain ⟨i,hi⟩:=List.mem_iff_getElem?.mp hr;exact (R.2 i r hi).1
 ·rw [List.pairwise_iff_getElem];intro i j hi hj hij x hx y hy e;subst e;have h1:=((R.2 i _ (List.getElem?_eq_getElem hi)).2 x).mp hx;have h2:=((R.2 j _ (List.getElem?_eq_getElem hj)).2 x).mp hy;exact h1.2.2 (H_le (by exact Nat.succ_le_of_lt ‹_›) h2.2.1)
theorem rds_ex (nd:(tbl.map (·.1)).Nodup) (hz:tbl.length≤20):∃ rds,lapsP 7 (addsP tbl,ready0 (addsP tbl))=some rds∧RdsOk tbl rds:=by
 obtain ⟨rds,h1,h2,h3⟩:=laps_ok nd hz 7;exact ⟨rds,h1,h2,h3⟩
theorem Tab.came (T:Tab tbl) {rds:List (List Str)} (R:RdsOk tbl rds) (y:Str):y∈rds.flatten↔y∈nm7∧¬ Rg (tget tbl) y:=by
 rw [R.mem,T.nn]
 constructor
 ·rintro ⟨a,b⟩;exact ⟨a,λh=>b ((T.ringed a).mpr h)⟩
 ·rintro ⟨a,b⟩;exact ⟨a,λh=>b ((T.ringed a).mp h)⟩
theorem Tab.turnA (T:Tab tbl):∃ rds,RdsOk tbl rds∧TurnA tbl rds:=by
 obtain ⟨rds,h1,R⟩:=rds_ex T.nd (by rw [T.len];decide);refine ⟨rds,R,λss hp hs=>sorted_unique hs nm7_sorted (hp.trans T.kp),T.len,λx hx=>T.at_ hx,λx hx=>T.dups hx,λp hp=>?_,⟨λe=>?_,?_⟩,h1,R.1,λr hr=>?_,?_,λi r hi ss hp hs=>?_,λc hc=>?_⟩
 ·obtain ⟨a,b⟩:=T.adds hp;exact .inr ⟨_,b,(T.names _).mpr (T.get a).1⟩
 ·have:=(T.names (Str.ofString "a")).mpr (by decide);rw [e] at this;cases this
 ·rintro ⟨p,hp,e⟩;rw [(T.adds hp).2] at e;cases e
 ·obtain ⟨i,hi⟩:=List.mem_iff_getElem?.mp hr;have:=nodup_len (R.2 i r hi).1 (k:=nm7) λy hy=>(T.nn y).mp (((R.2 i r hi).2 y).mp hy).1;have:nm7.length=7:=rfl;exact Nat.lt_of_le_of_lt ‹_› (by decide)
 ·have:=nodup_len R.nodup (k:=nm7) λy hy=>((T.came R y).mp hy).1;have:nm7.length=7:=rfl;exact n_t ‹_› (by decide)
 ·have hlt:i < 7:=by rw [<-R.1];exact (List.getElem?_eq_some_iff.mp hi).1
  unfold dueP;rw [List.getElem?_map,List.getElem?_range hlt];show some _=some ss
  congr 1
  refine (sorted_unique hs (pw_sorted ((sorted_pw nm7_sorted).filter _)) (hp.trans (perm_of_mem (R.2 i r hi).1 (nm7_nodup.filter _) λy=>?_))).symm;rw [(R.2 i r hi).2,T.nn,List.mem_filter];refine and_congr_right λhy=>?_;rw [Bool.and_eq_true,decide_eq_true_eq,Bool.not_eq_true',decide_eq_false_iff_not,tall_iff]
  constructor
  ·rintro ⟨a,b⟩;rw [T.H _ y hy] at a;refine ⟨⟨⟨by exact Nat.le_of_lt ‹_›,a⟩,λt ht e=>?_⟩,λhr=>?_⟩
   ·refine Classical.byContradiction λhlt=>b (H_le (b:=t) (by exact om200 hlt) ?_);exact (T.H t y hy).mpr e
   ·unfold ringedP at hr;have hr:=(List.mem_filter.mp hr).2;rw [decide_eq_true_eq] at hr;obtain ⟨j,hj⟩:=List.mem_iff_getElem?.mp hr;rw [List.getElem?_drop] at hj;have:=road_at.mp hj;exact b (H_le (b:=7) (by exact Nat.succ_le_of_lt ‹_›) ((T.ringed hy).mpr ⟨1 + j,by omega,this.2⟩))
  ·rintro ⟨⟨⟨a1,a2⟩,a3⟩,_⟩;refine ⟨(T.H _ y hy).mpr a2,λh=>?_⟩;have:=a3 (i + 1) (by exact Nat.succ_le_of_lt ‹_›) ((T.H _ y hy).mp h);exact om201 this
 ·obtain ⟨q,x,rfl,hq,hlen,hch⟩:=hc
  have hl:(addsP tbl).length≤14:=by
   have h1:=len_nn0 tbl;have:(addsP tbl).length=(nn0 tbl).length:=by rw [adds_mk];unfold Mine.mk;rw [List.length_map]
   rw [T.len] at h1;exact n_t (n_e ‹_›) ‹_›
  have hx:(q ++ [x]).head?=some x:=by
   cases q with
   |nil=>cases hq
   |cons a r=>exact hq
  have hst:∀ j a b,(q ++ [x])[j]?=some a->(q ++ [x])[j + 1]?=some b->a∈nm7∧b=tget tbl a:=λj a b h1 h2=>by
   obtain ⟨p,hp,rfl,e⟩:=hch j a b h1 h2;obtain ⟨h3,h4⟩:=T.adds hp;rw [h4] at e;exact ⟨h3,(List.cons.inj e).1.symm⟩
  have hq7:∀ y∈q,y∈nm7:=λy hy=>by
   obtain ⟨j,hj⟩:=List.mem_iff_getElem?.mp hy;have hj1:=(List.getElem?_eq_some_iff.mp hj).1;obtain ⟨b,hb⟩:∃ b,(q ++ [x])[j + 1]?=some b:=⟨_,List.getElem?_eq_getElem (by simp;assumption)⟩;exact (hst j y b (by rw [List.getElem?_append_left hj1];exact hj) hb).1
  refine ⟨by exact n_t ‹_› (n_t (Nat.succ_le_succ ‹_›) (by decide)),?_,λy hy=>?_,?_⟩
  ·rw [hx];simp
  ·rcases List.mem_append.mp hy with h|h
   ·exact hq7 y h
   ·cases List.mem_singleton.mp h;exact hq7 x (List.mem_of_mem_head? hq)
  ·rw [List.dropLast_concat];refine List.ext_getElem? λj=>?_;rw [List.getElem?_map,List.getElem?_drop];cases hj:q[j]? with
   |none=>
    have:q.length≤j:=List.getElem?_eq_none_iff.mp hj;rw [List.getElem?_eq_none (by simp;exact om202 this)];rfl
   |some a=>
    have hj1:=(List.getElem?_eq_some_iff.mp hj).1;obtain ⟨b,hb⟩:∃ b,(q ++ [x])[j + 1]?=some b:=⟨_,List.getElem?_eq_getElem (by simp;assumption)⟩;have:=(hst j a b (by rw [List.getElem?_append_left hj1];exact hj) hb).2;rw [Nat.add_comm 1 j,hb,this];rfl
end
theorem slash_eq:Str.ofString "/"=⟨#[47]⟩:=by rfl
theorem str_l {x y:Str} (h:x.cps.toList=y.cps.toList):x=y:=Str.ext' (Array.toList_inj.mp h)
theorem str_len (x:Str):x.length=x.cps.toList.length:=by simp [Str.length]
theorem app_l (x y:Str):(x ++ y).cps.toList=x.cps.toList ++ y.cps.toList:=by show (x.cps ++ y.cps).toList=_;simp
structure Nm (x:Str):Prop where
 s:47∉x.cps.toList
 e:x.cps.toList≠[]
 d:x≠Str.ofString "."
 z:x.length≤3
theorem nm7_Nm:∀ x∈nm7,Nm x:=by
 have:∀ x∈nm7,47∉x.cps.toList∧x.cps.toList≠[]∧x≠Str.ofString "."∧x.length≤3:=by decide +kernel
 exact λx hx=>let ⟨a,b,c,d⟩:=this x hx;⟨a,b,c,d⟩
noncomputable def wl (ws:List Str):List Nat:=ws.flatMap λx=>47 :: x.cps.toList
noncomputable def wp (ws:List Str):Str:=if ws=[] then slash else ⟨(wl ws).toArray⟩
theorem wp_nil:(wp []).cps.toList=[47]:=by rfl
theorem wp_ne {ws:List Str} (h:ws≠[]):(wp ws).cps.toList=wl ws:=by unfold wp;rw [if_neg h]
theorem wl_snoc (ws:List Str) (c:Str):wl (ws ++ [c])=wl ws ++ 47 :: c.cps.toList:=by unfold wl;rw [List.flatMap_append];simp
theorem wp_snoc (ws:List Str) (c:Str):(wp (ws ++ [c])).cps.toList=wl ws ++ 47 :: c.cps.toList:=by rw [wp_ne (by simp),wl_snoc]
theorem rfind_at {x:Str} {A C:List Nat} (h:x.cps.toList=A ++ 47 :: C) (hC:47∉C):Txt.rfind x (Str.ofString "/")=A.length:=by
 rw [slash_eq];unfold Txt.rfind;rcases StrLaws.last_spec x ⟨#[47]⟩ with ⟨_,h2⟩|⟨i,h1,h2,h3⟩
 ·exact absurd ((StrLaws.subAt_one x 47 A.length).mpr (by rw [h];simp)) (h2 _)
 ·rw [h1];have h4:=(StrLaws.subAt_one x 47 i).mp h2;have h5:¬ i < A.length:=λhlt=>h3 A.length hlt ((StrLaws.subAt_one x 47 A.length).mpr (by rw [h];simp))
  have h6:¬ A.length < i:=λhlt=>by
   rw [h,List.getElem?_append_right (by exact Nat.le_of_lt ‹_›),show i - A.length=(i - A.length - 1) + 1 by exact om203 hlt,List.getElem?_cons_succ] at h4;exact hC (List.mem_of_getElem? h4)
  show (i:Int)=_;exact om204 h5 h6
theorem bnF_at {x:Str} {A C:List Nat} (h:x.cps.toList=A ++ 47 :: C) (hC:47∉C):(bnF x).cps.toList=C:=by
 have hl:x.length=A.length + 1 + C.length:=by rw [str_len,h];simp;exact om192
 unfold bnF;rw [rfind_at h hC,slice_from_eq (by exact om19) (by exact om205 hl) rfl,h];have e1:((A.length:Int) + 1).toNat=A.length + 1:=by exact om104
 rw [e1,show A ++ 47 :: C=(A ++ [47]) ++ C by simp,List.drop_left' (by simp)];exact List.take_of_length_le (by exact om206 hl)
theorem head_at {x:Str} {A C:List Nat} (h:x.cps.toList=A ++ 47 :: C) (hC:47∉C):(Txt.slice x none (some (Txt.rfind x (Str.ofString "/") + 1))).cps.toList=A ++ [47]:=by
 have hl:x.length=A.length + 1 + C.length:=by rw [str_len,h];simp;exact om192
 rw [rfind_at h hC];rw [beq_iff_eq.mp (slice_closes_toL (x:=x) (j:=(A.length:Int) + 1) (by exact om19) (by exact om205 hl)),h];have e1:((A.length:Int) + 1 - 0).toNat=A.length + 1:=by exact om207
 rw [e1,show (0:Int).toNat=0 from rfl,List.drop_zero,show A ++ 47 :: C=(A ++ [47]) ++ C by simp,List.take_left' (by simp)]
theorem mul_slash (n:Nat):∀ a∈(Txt.mul (Str.ofString "/") n).cps.toList,a=47:=by
 have key:∀ (n:Nat) (acc:Array Nat),(∀ a∈acc.toList,a=47)->∀ a∈((List.replicate n (#[47]:Array Nat)).foldl (· ++ ·) acc).toList,a=47:=by
  intro n
  induction n with
  |zero=>exact λacc h=>h
  |succ n ih=>
   intro acc h;rw [List.replicate_succ,List.foldl_cons];refine ih _ λa ha=>?_;rw [Array.toList_append,List.mem_append] at ha;rcases ha with ha|ha
   ·exact h a ha
   ·simpa using ha
 rw [slash_eq];unfold Txt.mul
 split
 ·intro a ha;cases ha
 ·split
  ·intro a ha;simpa using ha
  ·exact key _ _ (λa ha=>by simp at ha)
theorem dnF_root {x:Str} {C:List Nat} (h:x.cps.toList=47 :: C) (hC:47∉C):dnF x=slash:=by
 have e:Txt.slice x none (some (Txt.rfind x (Str.ofString "/") + 1))=slash:=str_l (by rw [head_at (A:=[]) h hC];rfl);unfold dnF;rw [e];rfl
theorem dnF_at {x:Str} {A C:List Nat} {a:Nat} (h:x.cps.toList=A ++ a :: 47 :: C) (hC:47∉C) (ha:a≠47):(dnF x).cps.toList=A ++ [a]:=by
 have e:=head_at (x:=x) (A:=A ++ [a]) (C:=C) (by rw [h];simp) hC;unfold dnF;generalize Txt.slice x none (some (Txt.rfind x (Str.ofString "/") + 1))=y at e;have hl:y.length=A.length + 2:=by rw [str_len,e];simp
 have hn:y≠Txt.mul (Str.ofString "/") y.length:=λq=>by
  refine ha (mul_slash y.length a ?_);rw [<-q,e];simp
 dsimp only;rw [if_pos (by rw [hl];simpa [hl] using hn)];have lo:stripLo (Str.ofString "/").cps.contains false y=0:=rfl
 have hi:stripHi (Str.ofString "/").cps.contains true y 0=A.length + 1:=by
  unfold stripHi;rw [if_pos rfl,hl,e,slash_eq]
  have:(((A ++ [a] ++ [47]).drop 0).reverse.takeWhile (#[47]:Array Nat).contains)=[47]:=by
   simp [List.takeWhile,ha]
  rw [this];rfl
 unfold Txt.rstripChars Txt.stripBy;rw [if_neg (by unfold stripSame;rw [lo,hi,hl];simp)];show (Builtin.Str.strSub y (stripLo _ false y) (stripHi _ true y (stripLo _ false y))).cps.toList=_;rw [lo,hi,StrLaws.strSub_toList,e,List.drop_zero,Nat.sub_zero];exact List.take_left' (by simp)
theorem wl_end {ws:List Str} (h:ws≠[]) (hn:∀ x∈ws,Nm x):Ex2 λA a=>wl ws=A ++ [a]∧a≠47:=by
 rcases List.eq_nil_or_concat ws with rfl|⟨vs,d,rfl⟩
 ·exact absurd rfl h
 ·rw [List.concat_eq_append] at hn ⊢;have hd:=hn d (by simp);rcases List.eq_nil_or_concat d.cps.toList with q|⟨l,a,q⟩
  ·exact absurd q hd.e
  ·rw [List.concat_eq_append] at q;refine ⟨wl vs ++ 47 :: l,a,by rw [wl_snoc,q];simp,?_⟩;rintro rfl;exact hd.s (by rw [q];simp)
theorem bnF_wp {ws:List Str} {c:Str} (hc:Nm c):bnF (wp (ws ++ [c]))=c:=str_l (bnF_at (wp_snoc ws c) hc.s)
theorem bnF_root:bnF (wp [])=Str.ofString "":=str_l (bnF_at (A:=[]) wp_nil (λh=>nomatch h))
theorem dnF_wp {ws:List Str} {c:Str} (hn:∀ x∈ws,Nm x) (hc:Nm c):dnF (wp (ws ++ [c]))=wp ws:=by
 by_cases q:ws=[]
 ·subst q;exact dnF_root (wp_snoc [] c) hc.s
 ·obtain ⟨A,a,h,ha⟩:=wl_end q hn;refine str_l ?_;rw [wp_ne q,h];refine dnF_at ?_ hc.s ha;rw [wp_snoc,h];simp
theorem joinF_wp {ws:List Str} {c:Str} (hn:∀ x∈ws,Nm x) (hc:Nm c):joinF (wp ws) c=wp (ws ++ [c]):=by
 have h1:Txt.startswith c (Str.ofString "/")=false:=by
  rw [slash_eq,Bool.eq_false_iff];intro h;unfold Txt.startswith at h;rw [Bool.and_eq_true,decide_eq_true_eq] at h;exact hc.s (List.mem_of_getElem? ((StrLaws.subAt_one c 47 0).mp h))
 have hend:∀ B b,(wp ws).cps.toList=B ++ [b]->(Txt.endswith (wp ws) (Str.ofString "/")=decide (b=47))∧((wp ws).length == 0)=false:=λB b h=>by
  have hl:(wp ws).length=B.length + 1:=by rw [str_len,h];simp
  refine ⟨?_,by rw [hl];rfl⟩;have:=StrLaws.subAt_one (wp ws) 47 ((wp ws).length - 1);rw [slash_eq];unfold Txt.endswith
  rw [Bool.eq_iff_iff,decide_eq_true_eq,Bool.and_eq_true,decide_eq_true_eq];have e:(wp ws).length - 1=B.length:=by exact om208 hl
  have e2:(⟨#[47]⟩:Str).length=1:=rfl;simp only [e2,e] at this ⊢;rw [h,List.getElem?_append_right (Nat.le_refl _),Nat.sub_self] at this
  constructor
  ·intro k;have:=this.mp ⟨by exact n_e (Eq.symm ‹_›),k.2⟩
   simpa using this
  ·rintro rfl;exact ⟨by exact om209 hl e,(this.mpr rfl).2⟩
 unfold joinF;rw [h1]
 by_cases q:ws=[]
 ·subst q;obtain ⟨h2,h3⟩:=hend [] 47 rfl;rw [h2,h3];exact str_l (by rw [wp_snoc];show (wp [] ++ c).cps.toList=_;rw [app_l];rfl)
 ·obtain ⟨A,a,h,ha⟩:=wl_end q hn;obtain ⟨h2,h3⟩:=hend A a (by rw [wp_ne q,h]);rw [h2,h3,decide_eq_false ha];exact str_l (by rw [wp_snoc];show (wp ws ++ (Str.ofString "/" ++ c)).cps.toList=_;rw [app_l,app_l,wp_ne q];rfl)
theorem cut_uniq {x y A B:List Nat} (hx:47∉x) (hy:47∉y) (h:x ++ 47 :: A=y ++ 47 :: B):x=y∧A=B:=by
 induction x generalizing y with
 |nil=>
  cases y with
  |nil=>simpa using h
  |cons b y=>simp at h;exact absurd h.1 (by rintro rfl;simp at hy)
 |cons a x ih=>
  cases y with
  |nil=>simp at h;exact absurd h.1.symm (by rintro rfl;simp at hx)
  |cons b y=>
   simp only [List.cons_append,List.cons.injEq] at h;obtain ⟨h1,h2⟩:=ih (λq=>hx (.tail _ q)) (λq=>hy (.tail _ q)) h.2;exact ⟨by rw [h.1,h1],h2⟩
theorem join_l (x y:Str) (r:List Str):(Str.join ⟨#[47]⟩ (x :: y :: r)).cps.toList=x.cps.toList ++ 47 :: (Str.join ⟨#[47]⟩ (y :: r)).cps.toList:=by
 show (x ++ ⟨#[47]⟩ ++ Str.join ⟨#[47]⟩ (y :: r)).cps.toList=_;rw [app_l,app_l];simp
theorem join_uniq:∀ {P Q:List Str},P≠[]->Q≠[]->(∀ x∈P,47∉x.cps.toList)->(∀ x∈Q,47∉x.cps.toList)->Str.join ⟨#[47]⟩ P=Str.join ⟨#[47]⟩ Q->P=Q
 |[],_,h,_,_,_,_=>absurd rfl h
 |_,[],_,h,_,_,_=>absurd rfl h
 |[x],[y],_,_,_,_,h=>by rw [show x=y from h]
 |[x],y :: z :: r,_,_,h1,_,h=>by
  have:x=Str.join ⟨#[47]⟩ (y :: z :: r):=h;exact absurd (by rw [this,join_l];simp) (h1 x (.head _))
 |x :: z :: r,[y],_,_,_,h2,h=>by
  have:Str.join ⟨#[47]⟩ (x :: z :: r)=y:=h;exact absurd (by rw [<-this,join_l];simp) (h2 y (.head _))
 |x :: a :: r,y :: b :: q,_,_,h1,h2,h=>by
  have e:=congrArg (λs:Str=>s.cps.toList) h;simp only [join_l] at e;obtain ⟨e1,e2⟩:=cut_uniq (h1 x (.head _)) (h2 y (.head _)) e;rw [str_l e1,join_uniq (by simp) (by simp) (λz hz=>h1 z (.tail _ hz)) (λz hz=>h2 z (.tail _ hz)) (str_l e2)]
theorem join_wl:∀ (w:Str) (ws:List Str),(Str.join ⟨#[47]⟩ (w :: ws)).cps.toList=w.cps.toList ++ wl ws
 |w,[]=>by show w.cps.toList=_;simp [wl]
 |w,v :: ws=>by rw [join_l,join_wl v ws];rfl
theorem wp_join (ws:List Str):slash ++ Txt.join slash ws=wp ws:=by
 show slash ++ Builtin.Str.glued slash ws=_;rw [StrLaws.glued_eq_join];refine str_l ?_;rw [app_l];cases ws with
 |nil=>rfl
 |cons v ws=>rw [show slash=⟨#[47]⟩ from slash_eq,join_wl,wp_ne (by simp)];rfl
theorem comps_wp {ws:List Str} (hn:∀ x∈ws,Nm x):compsP (wp ws)=ws:=by
 unfold compsP;have hs:slash=⟨#[47]⟩:=slash_eq
 have key:∀ P:List Str,P≠[]->(∀ x∈P,47∉x.cps.toList)->Str.join ⟨#[47]⟩ P=wp ws->Txt.split (wp ws) slash=P:=λP h1 h2 h3=>by
  have j:=StrLaws.join_split (wp ws) slash;rw [hs] at j ⊢;refine join_uniq (λe=>?_) h1 (StrLaws.split_free _ _) h2 (j.trans h3.symm);rw [e] at j;have:(wp ws).cps.toList=[]:=by rw [<-j];rfl
  by_cases q:ws=[]
  ·subst q;cases this
  ·rw [wp_ne q] at this;cases ws with
   |nil=>exact q rfl
   |cons v ws=>cases this
 by_cases q:ws=[]
 ·subst q;rw [key [Str.ofString "",Str.ofString ""] (by simp) (λx hx=>by cases List.mem_cons.mp hx with|inl h=>rw [h];exact λh=>nomatch h|inr h=>rw [List.mem_singleton.mp h];exact λh=>nomatch h) (str_l rfl)]
  rfl
 ·rw [key (Str.ofString "" :: ws) (by simp) (λx hx=>by
   rcases List.mem_cons.mp hx with rfl|hx
   ·exact λh=>nomatch h
   ·exact (hn x hx).s) (str_l (by rw [join_wl,wp_ne q];rfl))]
  rw [List.filter_cons_of_neg (by simp)];refine List.filter_eq_self.mpr λx hx=>?_;have:=hn x hx;simp only [Bool.and_eq_true,decide_eq_true_eq];exact ⟨by rintro rfl;exact this.e rfl,this.d⟩
theorem wp_starts (ws:List Str):Txt.startswith (wp ws) slash=true:=by
 have h:(wp ws).cps.toList[0]?=some 47:=by
  by_cases q:ws=[]
  ·subst q;rfl
  ·rw [wp_ne q];cases ws with
   |nil=>exact absurd rfl q
   |cons v ws=>rfl
 have:=(StrLaws.subAt_one (wp ws) 47 0).mpr h;rw [show slash=⟨#[47]⟩ from slash_eq];unfold Txt.startswith
 rw [Bool.and_eq_true,decide_eq_true_eq];exact this
theorem wp_len {ws:List Str} (hn:∀ x∈ws,Nm x):(wp ws).length≤4 * ws.length + 1:=by
 by_cases q:ws=[]
 ·subst q;decide
 ·rw [str_len,wp_ne q];refine n_t (m:=4 * ws.length) ?_ (by exact om210);clear q
  induction ws with
  |nil=>exact Nat.le_refl _
  |cons v ws ih=>
   have h1:=ih λx hx=>hn x (.tail _ hx);have h2:=(hn v (.head _)).z;rw [str_len] at h2;show ((47 :: v.cps.toList) ++ wl ws).length≤_;simp only [List.length_append,List.length_cons];exact om211 h1 h2
theorem cp_wp {ws vs:List Str} (h1:∀ x∈ws,Nm x) (h2:∀ x∈vs,Nm x):cpP (wp ws) (wp vs)=wp (lcpP (minP ws vs) (maxP ws vs)):=by
 unfold cpP;rw [comps_wp h1,comps_wp h2,wp_join]
theorem find_map {α:Type} (f:Str->α) (x:Str):∀ l:List Str,x∈l->((l.map λy=>(y,f y)).find? λth:Str×α=>decide (th.1=x))=some (x,f x)
 |[],h=>nomatch h
 |y :: l,h=>by
  rw [List.map_cons]
  by_cases q:y=x
  ·subst q;rw [List.find?_cons_of_pos (by simp)]
  ·rw [List.find?_cons_of_neg (by simpa using q)];exact find_map f x l ((List.mem_cons.mp h).resolve_left (Ne.symm q))
noncomputable def kidsP (seq:List (Str×Str)) (x:Str):List Str:=(seq.filter λp=>decide (p.2=x)).map (·.1)
noncomputable def wayW (seq:List (Str×Str)):Str->List Str:=seq.foldl (λW p y=>if y=p.1 then W p.2 ++ [p.1] else W y) λ_=>[]
noncomputable def nmsP (seq:List (Str×Str)):List Str:=Str.ofString "" :: seq.map (·.1)
noncomputable def treeT (seq:List (Str×Str)):List Th:=(nmsP seq).map λx=>(x,wp (wayW seq x),wp (wayW seq x) :: kidsP seq x)
inductive Sq:List (Str×Str)->Prop
 |nil:Sq []
 |snoc {seq:List (Str×Str)} {c par:Str}:Sq seq->c∉seq.map (·.1)->Nm c->(seq=[]∧par=Str.ofString "")∨par∈seq.map (·.1)->Sq (seq ++ [(c,par)])
theorem Nm.ne {x:Str} (h:Nm x):x≠Str.ofString "":=λe=>h.e (by rw [e];rfl)
theorem wayW_snoc (seq:List (Str×Str)) (c par y:Str):wayW (seq ++ [(c,par)]) y=if y=c then wayW seq par ++ [c] else wayW seq y:=by unfold wayW;rw [List.foldl_append];rfl
theorem kids_snoc (seq:List (Str×Str)) (c par y:Str):kidsP (seq ++ [(c,par)]) y=kidsP seq y ++ if par=y then [c] else []:=by
 unfold kidsP;rw [List.filter_append,List.map_append]
 congr 1
 by_cases q:par=y
 ·rw [if_pos q,List.filter_cons_of_pos (by simpa using q)];rfl
 ·rw [if_neg q,List.filter_cons_of_neg (by simpa using q)];rfl
theorem nms_snoc (seq:List (Str×Str)) (p:Str×Str):nmsP (seq ++ [p])=nmsP seq ++ [p.1]:=by unfold nmsP;rw [List.map_append];rfl
section
variable {seq:List (Str×Str)}
theorem Sq.nm (S:Sq seq):∀ x∈seq.map (·.1),Nm x:=by
 induction S with
 |nil=>intro x h;cases h
 |snoc _ _ hc _ ih=>
  intro x h;rw [List.map_append,List.mem_append] at h;rcases h with h|h
  ·exact ih x h
  ·rw [List.mem_singleton.mp h];exact hc
theorem Sq.nd (S:Sq seq):(seq.map (·.1)).Nodup:=by
 induction S with
 |nil=>exact List.nodup_nil
 |snoc _ hn _ _ ih=>
  rw [List.map_append,List.nodup_append];exact ⟨ih,by simp,λa ha b hb=>by cases List.mem_singleton.mp hb;rintro rfl;exact hn ha⟩
theorem Sq.par (S:Sq seq):∀ p∈seq,p.2∈nmsP seq:=by
 induction S with
 |nil=>intro p h;cases h
 |@snoc seq c par _ _ _ h2 ih=>
  intro p h;rw [nms_snoc,List.mem_append];refine .inl ?_;rcases List.mem_append.mp h with h|h
  ·exact ih p h
  ·rw [List.mem_singleton.mp h];rcases h2 with ⟨_,e⟩|h2
   ·show par∈_;rw [e];exact .head _
   ·exact .tail _ h2
theorem Sq.root (S:Sq seq):wayW seq (Str.ofString "")=[]:=by
 induction S with
 |nil=>rfl
 |snoc _ _ hc _ ih=>rw [wayW_snoc,if_neg (Ne.symm hc.ne),ih]
theorem Sq.step (S:Sq seq):∀ p∈seq,wayW seq p.1=wayW seq p.2 ++ [p.1]:=by
 induction S with
 |nil=>intro p h;cases h
 |@snoc seq c par S hn hc h2 ih=>
  intro p h
  have hp:∀ y∈nmsP seq,y≠c:=λy hy e=>by
   rcases List.mem_cons.mp (e▸hy) with h|h
   ·exact hc.ne h
   ·exact hn h
  rcases List.mem_append.mp h with h|h
  ·rw [wayW_snoc,wayW_snoc,if_neg (hp _ (.tail _ (List.mem_map.mpr ⟨p,h,rfl⟩))),if_neg (hp _ (S.par p h)),ih p h]
  ·rw [List.mem_singleton.mp h,wayW_snoc,wayW_snoc,if_pos rfl,if_neg];refine hp _ ?_;rcases h2 with ⟨_,e⟩|h2
   ·show par∈_;rw [e];exact .head _
   ·exact .tail _ h2
theorem Sq.mem (S:Sq seq):∀ x y,y∈wayW seq x->y∈seq.map (·.1):=by
 induction S with
 |nil=>intro x y h;cases h
 |snoc _ _ _ _ ih=>
  intro x y h;rw [wayW_snoc] at h;rw [List.map_append,List.mem_append]
  split at h
  ·exact (List.mem_append.mp h).imp (ih _ y) id
  ·exact .inl (ih _ y h)
theorem Sq.wnm (S:Sq seq) (x:Str):∀ y∈wayW seq x,Nm y:=λy h=>S.nm y (S.mem x y h)
theorem Sq.wlen (S:Sq seq):∀ x,(wayW seq x).length≤seq.length:=by
 induction S with
 |nil=>intro x;exact Nat.le_refl _
 |snoc _ _ _ _ ih=>
  intro x;rw [wayW_snoc,List.length_append,List.length_singleton]
  split
  ·rw [List.length_append,List.length_singleton];exact Nat.succ_le_succ (ih _)
  ·exact Nat.le_succ_of_le (ih x)
theorem Sq.tree (S:Sq seq) (hz:seq.length≤100):hangAll root0 seq=some (treeT seq):=by
 induction S with
 |nil=>rfl
 |@snoc seq c par S hn hc h2 ih=>
  rw [List.length_append,List.length_singleton] at hz
  have hpar:par∈nmsP seq:=by
   rcases h2 with ⟨_,e⟩|h2
   ·rw [e];exact .head _
   ·exact .tail _ h2
  have hp:∀ y∈nmsP seq,y≠c:=λy hy e=>by
   rcases List.mem_cons.mp (e▸hy) with h|h
   ·exact hc.ne h
   ·exact hn h
  unfold hangAll at ih ⊢;rw [List.foldlM_append,ih (by exact om212 hz)];show (hang (treeT seq) par c >>= pure)=_;rw [bind_pure];have hj:joinF (wp (wayW seq par)) c=wp (wayW seq par ++ [c]):=joinF_wp (S.wnm par) hc;have hnames:(treeT seq).map (·.1)=nmsP seq:=by unfold treeT;rw [List.map_map];exact List.map_id'' (λ_=>rfl) _
  have hl:(treeT seq).length=seq.length + 1:=by unfold treeT nmsP;simp
  unfold hang;have hf:=find_map (λx=>(wp (wayW seq x),wp (wayW seq x) :: kidsP seq x)) par _ hpar;rw [show (treeT seq).find? (λth=>decide (th.1=par))=some (par,wp (wayW seq par),wp (wayW seq par) :: kidsP seq par) from hf];have w1:=wp_len (S.wnm par);have w2:=S.wlen par;have w3:(kidsP seq par).length≤seq.length:=by unfold kidsP;rw [List.length_map];exact List.length_filter_le _ _
  have w4:=hc.z;dsimp only;rw [if_pos ⟨by exact om213 hz hl w1 w2,by exact n_t ‹_› (by decide),by rw [List.length_cons];exact om214 hz hl w3,by exact n_t (n_e ‹_›) (n_t ‹_› (by decide)),by rw [hnames];exact λh=>hp c h rfl⟩,hj]
  congr 1
  unfold treeT;rw [nms_snoc,List.map_append,List.map_map,List.map_singleton]
  congr 1
  ·refine List.map_congr_left λy hy=>?_;show (if y=par then _ else _)=_;have hw:wayW (seq ++ [(c,par)]) y=wayW seq y:=by rw [wayW_snoc,if_neg (hp y hy)]
   rw [hw,kids_snoc]
   split
   ·rename_i e
    subst e;rw [if_pos rfl,hj,bnF_wp hc];rfl
   ·rename_i e
    rw [if_neg (Ne.symm e),List.append_nil]
  ·show [_]=[(c,wp (wayW (seq ++ [(c,par)]) c),_)]
   have hk:kidsP (seq ++ [(c,par)]) c=[]:=by
    rw [kids_snoc,if_neg (hp par hpar),List.append_nil];unfold kidsP;rw [List.map_eq_nil_iff,List.filter_eq_nil_iff];intro p h e;exact hp _ (S.par p h) (by simpa using e)
   rw [hk,wayW_snoc,if_pos rfl]
end
theorem up_spec {x p:Str}:∀ (ths:List Th) (a:Option Str),(∀ th∈ths,x∈th.2.2->th.2.1=p)->((∃ th∈ths,x∈th.2.2)∨a=some p)->ths.foldl (λa th=>if x∈th.2.2 then some th.2.1 else a) a=some p
 |[],a,_,h=>by
  rcases h with ⟨_,h,_⟩|h
  ·cases h
  ·exact h
 |th :: r,a,h1,h2=>by
  rw [List.foldl_cons];refine up_spec r _ (λt ht=>h1 t (.tail _ ht)) ?_
  by_cases q:x∈th.2.2
  ·rw [if_pos q,h1 th (.head _) q];exact .inr rfl
  ·rw [if_neg q];rcases h2 with ⟨t,ht,hx⟩|h2
   ·rcases List.mem_cons.mp ht with rfl|ht
    ·exact absurd hx q
    ·exact .inl ⟨t,ht,hx⟩
   ·exact .inr h2
theorem up_none {x:Str}:∀ (ths:List Th),(∀ th∈ths,x∉th.2.2)->ths.foldl (λ(a:Option Str) th=>if x∈th.2.2 then some th.2.1 else a) none=none
 |[],_=>rfl
 |th :: r,h=>by rw [List.foldl_cons,if_neg (h th (.head _))];exact up_none r λt ht=>h t (.tail _ ht)
theorem wp_not_nm (ws:List Str) {x:Str} (h:47∉x.cps.toList):x≠wp ws:=by
 rintro rfl
 by_cases q:ws=[]
 ·subst q;exact h (by rw [wp_nil];simp)
 ·rw [wp_ne q] at h;cases ws with
  |nil=>exact q rfl
  |cons v ws=>exact h (by simp [wl])
theorem mem_kids {seq:List (Str×Str)} {x y:Str}:x∈kidsP seq y↔(x,y)∈seq:=by
 unfold kidsP
 constructor
 ·intro h;obtain ⟨⟨a,b⟩,h1,rfl⟩:=List.mem_map.mp h;have:=List.mem_filter.mp h1;have e:b=y:=by simpa using this.2
  rw [<-e];exact this.1
 ·exact λh=>List.mem_map.mpr ⟨_,List.mem_filter.mpr ⟨h,by simp⟩,rfl⟩
theorem key_uniq {x y z:Str}:∀ {l:List (Str×Str)},(l.map (·.1)).Nodup->(x,y)∈l->(x,z)∈l->y=z
 |[],_,h,_=>nomatch h
 |p :: r,nd,h1,h2=>by
  rw [List.map_cons,List.nodup_cons] at nd;rcases List.mem_cons.mp h1 with rfl|h1
  ·rcases List.mem_cons.mp h2 with e|h2
   ·injection e with _ e;exact e.symm
   ·exact absurd (List.mem_map.mpr ⟨_,h2,rfl⟩) nd.1
  ·rcases List.mem_cons.mp h2 with e|h2
   ·exact absurd (List.mem_map.mpr ⟨_,h1,by rw [<-e]⟩) nd.1
   ·exact key_uniq nd.2 h1 h2
section
variable {seq:List (Str×Str)}
theorem treeT_names (seq:List (Str×Str)):(treeT seq).map (·.1)=nmsP seq:=by unfold treeT;rw [List.map_map];exact List.map_id'' (λ_=>rfl) _
theorem Sq.bn (S:Sq seq) {y:Str} (h:y∈nmsP seq):bnF (wp (wayW seq y))=y:=by
 rcases List.mem_cons.mp h with rfl|h
 ·rw [S.root];exact bnF_root
 ·obtain ⟨p,hp,rfl⟩:=List.mem_map.mp h;rw [S.step p hp];exact bnF_wp (S.nm _ h)
theorem Sq.row (S:Sq seq) {x:Str} (hx:47∉x.cps.toList) {th:Th} (h:th∈treeT seq):x∈th.2.2↔(x,th.1)∈seq:=by
 obtain ⟨y,hy,rfl⟩:=List.mem_map.mp h;show x∈wp _ :: kidsP seq y↔_;rw [List.mem_cons,mem_kids];exact ⟨λh=>h.resolve_left (wp_not_nm _ hx),.inr⟩
theorem Sq.up (S:Sq seq) {x y:Str} (h:(x,y)∈seq):upN (treeT seq) x=some y:=by
 have hx:47∉x.cps.toList:=(S.nm x (List.mem_map.mpr ⟨_,h,rfl⟩)).s;have hy:=S.par _ h
 have:upP (treeT seq) x=some (wp (wayW seq y)):=up_spec _ _ (λth ht hm=>by
  have h2:=(S.row hx ht).mp hm;have e:=key_uniq S.nd h h2;obtain ⟨z,hz,rfl⟩:=List.mem_map.mp ht;change y=z at e;rw [e]) (.inl ⟨(y,_),List.mem_map.mpr ⟨y,hy,rfl⟩,.tail _ (mem_kids.mpr h)⟩)
 unfold upN;rw [this];exact congrArg some (S.bn hy)
theorem Sq.up_root (S:Sq seq):upN (treeT seq) (Str.ofString "")=none:=by
 have:upP (treeT seq) (Str.ofString "")=none:=up_none _ λth ht hm=>by
  have h:=(S.row (x:=Str.ofString "") (λh=>nomatch h) ht).mp hm;exact (S.nm _ (List.mem_map.mpr ⟨_,h,rfl⟩)).ne rfl
 unfold upN;rw [this];rfl
theorem fm_map {α:Type} {k:List (Str×Str)} {g:Str->α}:∀ {l:List (Str×Str)},(∀ p∈l,upN (treeT k) p.1=some p.2)->((l.map (·.1)).map λx=>((x,g x):Str×α)).filterMap (λth=>(upN (treeT k) th.1).map λy=>(th.1,y))=l
 |[],_=>rfl
 |p :: r,h=>by rw [List.map_cons,List.map_cons,List.filterMap_cons,h p (.head _),fm_map λq hq=>h q (.tail _ hq)];rfl
theorem Sq.read (S:Sq seq):readB (treeT seq) (treeT seq)=seq:=by
 have e:=fm_map (k:=seq) (g:=λx=>(wp (wayW seq x),wp (wayW seq x) :: kidsP seq x)) λp hp=>S.up hp;unfold readB;refine Eq.trans ?_ e;show List.filterMap _ ((Str.ofString "",_) :: (seq.map (·.1)).map λx=>(x,wp (wayW seq x),wp (wayW seq x) :: kidsP seq x))=_;rw [List.filterMap_cons,S.up_root]
 rfl
theorem Sq.pre (S:Sq seq):∀ (x:Str) (a r:List Str) (b:Str),wayW seq x=a ++ b :: r->wayW seq b=a ++ [b]:=by
 induction S with
 |nil=>intro x a r b h;simp [wayW] at h
 |@snoc seq c par S hn hc _ ih=>
  intro x a r b h;have hb:b∈wayW (seq ++ [(c,par)]) x:=by rw [h];simp
  rw [wayW_snoc] at h;rw [wayW_snoc]
  split at h
  ·rcases List.eq_nil_or_concat r with rfl|⟨r',z,rfl⟩
   ·obtain ⟨h1,h2⟩:=List.append_inj' h rfl;cases h2;rw [if_pos rfl,h1]
   ·rw [List.concat_eq_append,<-List.cons_append,<-List.append_assoc] at h;obtain ⟨h1,h2⟩:=List.append_inj' h rfl;have hm:b∈seq.map (·.1):=S.mem par b (by rw [h1];simp);rw [if_neg (by rintro rfl;exact hn hm)];exact ih par a r' b h1
  ·have hm:b∈seq.map (·.1):=S.mem x b (by rw [h];simp);rw [if_neg (by rintro rfl;exact hn hm)];exact ih x a r b h
theorem Sq.pthT (S:Sq seq) {x:Str} (h:x∈nmsP seq):pthT (treeT seq) x=wp (wayW seq x):=by
 unfold Mine.pthT;have hf:=find_map (λx=>(wp (wayW seq x),wp (wayW seq x) :: kidsP seq x)) x _ h;rw [show (treeT seq).find? (λth=>decide (th.1=x))=some (x,wp (wayW seq x),wp (wayW seq x) :: kidsP seq x) from hf]
 rfl
theorem Sq.rows (S:Sq seq) (hz:seq.length≤20) {th:Th} (h:th∈treeT seq):(∃ r,th.2.2=th.2.1 :: r)∧th.2.2.length≤100∧th.2.1.length≤900:=by
 obtain ⟨y,hy,rfl⟩:=List.mem_map.mp h;have w1:=wp_len (S.wnm y);have w2:=S.wlen y;have w3:(kidsP seq y).length≤seq.length:=by unfold kidsP;rw [List.length_map];exact List.length_filter_le _ _
 exact ⟨⟨_,rfl⟩,by show (_ :: _).length≤_;rw [List.length_cons];exact om215 hz w3,by show (wp _).length≤_;exact om216 hz w1 w2⟩
theorem Sq.way (S:Sq seq) {en:Str} (h:en∈seq.map (·.1)):wayP (treeT seq) en (treeT seq).length=wayW seq en:=by
 have key:∀ n,∃ a,And3 (a ++ wayP (treeT seq) en n=wayW seq en) (wayP (treeT seq) en n≠[]) ((a=[]∨(wayP (treeT seq) en n).length=n + 1)):=by
  intro n
  induction n with
  |zero=>
   obtain ⟨p,hp,rfl⟩:=List.mem_map.mp h;exact ⟨wayW seq p.2,(S.step p hp).symm,(λe=>List.cons_ne_nil _ _ e),.inr rfl⟩
  |succ n ih=>
   obtain ⟨a,h1,h2,h3⟩:=ih;show ∃ a,And3 (a ++ wayStep (treeT seq) (wayP (treeT seq) en n)=_) (wayStep (treeT seq) (wayP (treeT seq) en n)≠[]) ((a=[]∨(wayStep (treeT seq) (wayP (treeT seq) en n)).length=n + 2));generalize wayP (treeT seq) en n=w at h1 h2 h3;cases w with
   |nil=>exact absurd rfl h2
   |cons b r=>
    have hb:b∈seq.map (·.1):=S.mem en b (by rw [<-h1];simp);obtain ⟨⟨b',y⟩,hp,rfl⟩:=List.mem_map.mp hb;have hw:=S.pre en a r b' h1.symm;have hs:wayW seq b'=wayW seq y ++ [b']:=S.step _ hp;rw [hs] at hw;have hwa:wayW seq y=a:=(List.append_inj' hw rfl).1;unfold wayStep;rw [List.headD_cons,S.up hp,Option.getD_some];have hbn:=S.bn (S.par _ hp);change bnF (wp (wayW seq y))=y at hbn
    by_cases q:y=Str.ofString ""
    ·rw [if_neg (by simpa using q)];have:a=[]:=by rw [<-hwa,q];exact S.root
     subst this;exact ⟨[],h1,by simp,.inl rfl⟩
    ·rw [if_pos q];have hy:=(List.mem_cons.mp (S.par _ hp)).resolve_left q;obtain ⟨p2,hp2,e2⟩:=List.mem_map.mp hy;change p2.1=y at e2;have hs2:=S.step p2 hp2;rw [e2,hwa] at hs2;refine ⟨wayW seq p2.2,?_,by simp,?_⟩
     ·rw [<-h1,hs2];simp
     ·refine .inr ?_;rcases h3 with rfl|h3
      ·simp at hs2
      ·rw [List.length_cons,h3]
 obtain ⟨a,h1,h2,h3⟩:=key (treeT seq).length;rcases h3 with rfl|h3
 ·exact h1
 ·have hl:(treeT seq).length=seq.length + 1:=by unfold treeT nmsP;simp
  have:=S.wlen en;have h4:=congrArg List.length h1;rw [List.length_append] at h4
  omega
end
theorem tri {x y:Str} (h:x≠y):decide (y.cps.toList < x.cps.toList)=!decide (x.cps.toList < y.cps.toList):=by
 rw [Bool.eq_iff_iff,Bool.not_eq_true',decide_eq_true_eq,decide_eq_false_iff_not,List.not_lt]
 constructor
 ·exact List.le_of_lt
 ·intro h1;refine Classical.byContradiction λh2=>h ?_;exact (str_l (List.le_antisymm h1 (List.not_lt.mp h2))).symm
theorem min_max:∀ a b:List Str,lcpP (minP a b) (maxP a b)=lcpP a b∧∀ i < (minP a b).length,(minP a b).take i=(maxP a b).take i->i < (maxP a b).length
 |[],[]=>⟨rfl,λi h=>nomatch h⟩
 |[],y :: b=>⟨rfl,λi h=>absurd h (Nat.not_lt_zero i)⟩
 |x :: a,[]=>⟨rfl,λi h=>absurd h (Nat.not_lt_zero i)⟩
 |x :: a,y :: b=>by
  by_cases q:x=y
  ·subst q;obtain ⟨h1,h2⟩:=min_max a b
   have e1:minP (x :: a) (x :: b)=x :: minP a b:=by
    unfold minP;rw [cmpL_c,if_pos rfl];split <;> rfl
   have e2:maxP (x :: a) (x :: b)=x :: maxP a b:=by
    unfold maxP;rw [cmpL_c,if_pos rfl];split <;> rfl
   rw [e1,e2];refine ⟨by rw [lcpP_c,lcpP_c,if_pos rfl,if_pos rfl,h1],λi hi ht=>?_⟩;cases i with
   |zero=>simp
   |succ i=>
    simp only [List.length_cons,List.take_succ_cons,List.cons.injEq,true_and] at hi ht ⊢;have:=h2 i (by exact om217 hi) ht;exact Nat.succ_lt_succ ‹_›
  ·have q':¬ y=x:=λe=>q e.symm
   have key:(minP (x :: a) (y :: b)=y :: b∧maxP (x :: a) (y :: b)=x :: a)∨(minP (x :: a) (y :: b)=x :: a∧maxP (x :: a) (y :: b)=y :: b):=by
    unfold minP maxP;simp only [cmpL_c,if_neg q',if_true,tri q];cases decide (x.cps.toList < y.cps.toList) <;> simp
   have no:∀ (u v:Str) (k l:List Str),¬ u=v->∀ i < (u :: k).length,(u :: k).take i=(v :: l).take i->i < (v :: l).length:=λu v k l h i _ ht=>by
    cases i with
    |zero=>simp
    |succ i=>simp [h] at ht
   rcases key with ⟨e1,e2⟩|⟨e1,e2⟩
   ·rw [e1,e2];exact ⟨by rw [lcpP_c,lcpP_c,if_neg q,if_neg q'],no _ _ _ _ q'⟩
   ·rw [e1,e2];exact ⟨rfl,no _ _ _ _ q⟩
theorem lcp_pre (p:List Str):∀ t r:List Str,(∀ x∈t,x∉r)->lcpP (p ++ t) (p ++ r)=p:=by
 induction p with
 |nil=>
  intro t r h;cases t with
  |nil=>cases r <;> rfl
  |cons x t=>
   cases r with
   |nil=>rfl
   |cons y r=>
    have:¬ x=y:=λe=>h x (.head _) (e▸.head _);exact if_neg this
 |cons a p ih=>
  intro t r h;show lcpP (a :: (p ++ t)) (a :: (p ++ r))=_;exact (if_pos rfl).trans (congrArg _ (ih t r h))
noncomputable def endD (l:List Str) (e:Str):Str:=l.foldl (λ_ y=>y) e
theorem endD_snoc (l:List Str) (y e:Str):endD (l ++ [y]) e=y:=by unfold endD;rw [List.foldl_append];rfl
noncomputable def chainP:List Str->Str->List (Str×Str)
 |[],_=>[]
 |y :: r,e=>(y,e) :: chainP r y
theorem cycSeq_eq (f:Str->Str) (came:List Str):∀ (ks:List Str) (e:Str),cycSeq f came ks e=chainP ((ks.filter λx=>decide (x∉came)).map f) e
 |[],_=>rfl
 |x :: r,e=>by
  show (if x∈came then cycSeq f came r e else (f x,e) :: cycSeq f came r (f x))=_
  by_cases q:x∈came
  ·rw [if_pos q,List.filter_cons_of_neg (by simpa using q),cycSeq_eq f came r]
  ·rw [if_neg q,List.filter_cons_of_pos (by simpa using q),cycSeq_eq f came r];rfl
theorem cycEnd_eq (f:Str->Str) (came:List Str):∀ (ks:List Str) (e:Str),cycEnd f came ks e=endD ((ks.filter λx=>decide (x∉came)).map f) e
 |[],_=>rfl
 |x :: r,e=>by
  show (if x∈came then cycEnd f came r e else cycEnd f came r (f x))=_
  by_cases q:x∈came
  ·rw [if_pos q,List.filter_cons_of_neg (by simpa using q),cycEnd_eq f came r]
  ·rw [if_neg q,List.filter_cons_of_pos (by simpa using q),cycEnd_eq f came r];rfl
theorem chain_keys:∀ (l:List Str) (e:Str),(chainP l e).map (·.1)=l
 |[],_=>rfl
 |y :: r,e=>by show y :: _=_;rw [chain_keys r y]
theorem chain_snoc (y:Str):∀ (l:List Str) (e:Str),chainP (l ++ [y]) e=chainP l e ++ [(y,endD l e)]
 |[],_=>rfl
 |x :: r,e=>by
  show (x,e) :: chainP (r ++ [y]) x=_;rw [chain_snoc y r x];rfl
theorem last_mem:∀ (l:List Str) (e:Str),l≠[]->endD l e∈l
 |[],_,h=>absurd rfl h
 |x :: r,e,_=>by
  show endD r x∈_
  by_cases q:r=[]
  ·subst q;exact .head _
  ·exact .tail _ (last_mem r x q)
theorem chain_Sq (l:List Str) (nd:l.Nodup) (hn:∀ x∈l,Nm x):Sq (chainP l (Str.ofString "")):=by
 have:∀ n (l:List Str),l.length=n->l.Nodup->(∀ x∈l,Nm x)->Sq (chainP l (Str.ofString "")):=by
  intro n
  induction n with
  |zero=>intro l h _ _;rw [List.length_eq_zero_iff.mp h];exact .nil
  |succ n ih=>
   intro l h nd hn;rcases List.eq_nil_or_concat l with rfl|⟨k,y,rfl⟩
   ·cases h
   ·rw [List.concat_eq_append] at h nd hn ⊢;rw [List.nodup_append] at nd;rw [chain_snoc];refine .snoc (ih k (by simpa using h) nd.1 λx hx=>hn x (by simp [hx])) ?_ (hn y (by simp)) ?_
    ·rw [chain_keys];exact λhk=>nd.2.2 y hk y (by simp) rfl
    ·rw [chain_keys]
     by_cases q:k=[]
     ·subst q;exact .inl ⟨rfl,rfl⟩
     ·exact .inr (last_mem k _ q)
 exact this _ l rfl nd hn
theorem chain_at {a:List Str} {b:Str} {r:List Str}:∀ (e:Str),(b,endD a e)∈chainP (a ++ b :: r) e:=by
 induction a with
 |nil=>intro e;exact .head _
 |cons x a ih=>intro e;exact .tail _ (ih x)
theorem chain_way {seq:List (Str×Str)} (S:Sq seq) {l:List Str} (h:∀ p∈chainP l (Str.ofString ""),p∈seq):∀ (n:Nat) (a r:List Str) (b:Str),a.length=n->l=a ++ b :: r->wayW seq b=a ++ [b]
 |0,a,r,b,hn,e=>by
  obtain rfl:=List.length_eq_zero_iff.mp hn;subst e;have:=S.step _ (h _ (.head _));rw [S.root] at this;exact this
 |n + 1,a,r,b,hn,e=>by
  rcases List.eq_nil_or_concat a with rfl|⟨k,y,rfl⟩
  ·cases hn
  ·rw [List.concat_eq_append] at hn e ⊢;have ih:=chain_way S h n k (b :: r) y (by simpa using hn) (by rw [e];simp);have hp:=S.step _ (h _ (by rw [e];exact chain_at _));rw [endD_snoc] at hp;rw [hp,ih]
noncomputable def gsP (tbl:List (Str×Str)) (came:List Str):List Str:=(nm7.filter λx=>decide (x∉came)).map (tget tbl)
noncomputable def laidS (tbl:List (Str×Str)) (came:List Str):List (Str×Str):=chainP (gsP tbl came) (Str.ofString "") ++ came.reverse.map λx=>(x,tget tbl x)
noncomputable def FirstIs (f:Str->Str) (x y:Str):Prop:=∃ t,And3 (itr f t x=y) (Rg f y) (∀ s < t,¬ Rg f (itr f s x))
theorem dups_first {f:Str->Str}:∀ {t j n:Nat} {x:Str},t < j->j≤n->itr f j x=itr f t x->(∀ s < t,¬ Rg f (itr f s x))->(dups (roadP f n x)).headD (Str.ofString "")=itr f t x
 |t,j,0,x,h1,h2,_,_=>by omega
 |t,j,n + 1,x,h1,h2,h3,h4=>by
  have e:roadP f (n + 1) x=x :: roadP f n (f x):=by
   unfold roadP;rw [List.range_succ_eq_map,List.map_cons,List.map_map];refine congrArg (x :: ·) (List.map_congr_left λt _=>?_);exact (itr_f f t x).symm
  rw [e];cases t with
  |zero=>
   have hm:x∈roadP f n (f x):=by
    refine List.mem_of_getElem? (i:=j - 1) (road_at.mpr ⟨by exact om218 h2 h1,?_⟩);rw [itr_f];have:itr f (j - 1 + 1) x=x:=by rw [Nat.sub_add_cancel (by exact Nat.succ_le_of_lt ‹_›)];exact h3
    exact this
   rw [dups_c,if_pos hm];rfl
  |succ t=>
   have hm:x∉roadP f n (f x):=λhm=>by
    obtain ⟨i,hi⟩:=List.mem_iff_getElem?.mp hm;have h:=(road_at.mp hi).2;rw [itr_f] at h;exact h4 0 (by exact om219) ⟨i + 1,by exact om220,h⟩
   rw [dups_c,if_neg hm,dups_first (t:=t) (j:=j - 1) (by exact om221 h1) (by exact om222 h2 h1) ?_ (λs hs=>by rw [itr_f];exact h4 (s + 1) (by exact Nat.succ_lt_succ ‹_›)),itr_f]
   ·rfl
   ·rw [itr_f,itr_f];have:itr f (j - 1 + 1) x=itr f (t + 1) x:=by rw [Nat.sub_add_cancel (by exact om223 h1)];exact h3
    exact this
theorem itr_inj {f:Str->Str} {x y:Str} (hx:Rg f x) (hy:Rg f y):∀ t,itr f t x=itr f t y->x=y
 |0,h=>h
 |t + 1,h=>itr_inj hx hy t ((hx.steps t).inj (hy.steps t) h)
section
variable {tbl:List (Str×Str)} {rds:List (List Str)}
theorem Tab.first (T:Tab tbl) {x:Str} (hx:x∈nm7):FirstIs (tget tbl) x ((Mine.dups (roadP (tget tbl) 7 x)).headD (Str.ofString "")):=by
 obtain ⟨i,j,h1,h2,e⟩:=T.dup hx;have hi:Rg (tget tbl) (Mine.itr (tget tbl) i x):=⟨j - i,by exact om188 h1,by rw [<-itr_add,show i + (j - i)=j by exact om189 h1];exact e.symm⟩
 obtain ⟨t,ht,h3,h4⟩:∃ t≤i,Rg (tget tbl) (Mine.itr (tget tbl) t x)∧∀ s < t,¬ Rg (tget tbl) (Mine.itr (tget tbl) s x):=by
  clear e h1
  induction i with
  |zero=>exact ⟨0,Nat.le_refl _,hi,λs h=>nomatch h⟩
  |succ i ih=>
   by_cases q:∃ s≤i,Rg (tget tbl) (Mine.itr (tget tbl) s x)
   ·obtain ⟨s,hs,hr⟩:=q
    have:∀ n,∀ s≤n,Rg (tget tbl) (Mine.itr (tget tbl) s x)->∃ t≤n,Rg (tget tbl) (Mine.itr (tget tbl) t x)∧∀ s < t,¬ Rg (tget tbl) (Mine.itr (tget tbl) s x):=by
     intro n
     induction n with
     |zero=>exact λs hs hr=>⟨s,hs,hr,λu hu=>by omega⟩
     |succ n ihn=>
      intro s hs hr
      by_cases p:∃ s≤n,Rg (tget tbl) (Mine.itr (tget tbl) s x)
      ·obtain ⟨s,hs,hr⟩:=p;obtain ⟨t,a,b⟩:=ihn s hs hr;exact ⟨t,by exact Nat.le_succ_of_le ‹_›,b⟩
      ·exact ⟨s,hs,hr,λu hu hr=>p ⟨u,by exact om224 hs hu,hr⟩⟩
    obtain ⟨t,a,b⟩:=this i s hs hr;exact ⟨t,by exact Nat.le_succ_of_le ‹_›,b⟩
   ·exact ⟨i + 1,Nat.le_refl _,hi,λs hs hr=>q ⟨s,by exact om193 hs,hr⟩⟩
 have key:Mine.itr (tget tbl) (t + (j - i)) x=Mine.itr (tget tbl) t x:=by
  rw [itr_add];refine itr_inj (h3.steps _) h3 (i - t) ?_;rw [<-itr_add,<-itr_add,<-itr_add,show t + (j - i + (i - t))=j by exact om225 h1 ht,show t + (i - t)=i by exact om226 ht];exact e.symm
 rw [dups_first (j:=t + (j - i)) (by exact om227 h1) (by exact om228 h1 h2 ht) key h4];exact ⟨t,rfl,h3,h4⟩
theorem Tab.gs (T:Tab tbl) (R:RdsOk tbl rds) (y:Str):y∈gsP tbl rds.flatten↔y∈nm7∧Rg (tget tbl) y:=by
 unfold gsP
 constructor
 ·intro h;obtain ⟨x,hx,rfl⟩:=List.mem_map.mp h;obtain ⟨h1,h2⟩:=List.mem_filter.mp hx;have h2:¬ x∈rds.flatten:=by simpa using h2
  have:Rg (tget tbl) x:=Classical.byContradiction λq=>h2 ((T.came R x).mpr ⟨h1,q⟩);exact ⟨(T.get h1).1,this.step⟩
 ·rintro ⟨h1,h2⟩;obtain ⟨t,h3,h4⟩:=h2.pre;have h5:=T.itr h1 t;exact List.mem_map.mpr ⟨_,List.mem_filter.mpr ⟨h5,decide_eq_true λh=>((T.came R _).mp h).2 h4⟩,h3⟩
theorem Tab.gs_nd (T:Tab tbl) (R:RdsOk tbl rds):(gsP tbl rds.flatten).Nodup:=by
 unfold gsP;rw [List.nodup_iff_pairwise_ne,List.pairwise_map];refine List.Pairwise.imp_of_mem (R:=λa b=>a≠b) (λ{a b} ha hb hab e=>hab ?_) (nm7_nodup.filter _)
 have rg:∀ a,a∈nm7.filter (λx=>decide (x∉rds.flatten))->Rg (tget tbl) a:=λa ha=>by
  obtain ⟨h1,h2⟩:=List.mem_filter.mp ha;have h2:¬ a∈rds.flatten:=by simpa using h2
  exact Classical.byContradiction λq=>h2 ((T.came R a).mpr ⟨h1,q⟩)
 exact (rg a ha).inj (rg b hb) e
theorem Tab.gs_ne (T:Tab tbl) (R:RdsOk tbl rds):gsP tbl rds.flatten≠[]:=λh=>by
 obtain ⟨t,e,h2,_⟩:=T.first (x:=Str.ofString "a") (by decide);have h3:=T.itr (x:=Str.ofString "a") (by decide) t;rw [e] at h3;have:=(T.gs R _).mpr ⟨h3,h2⟩;rw [h] at this;cases this
theorem RdsOk.after (R:RdsOk tbl rds):rds.flatten.Pairwise λa b=>∀ t,Hh tbl t a->Hh tbl t b:=by
 have key:∀ (i j:Nat) r r' a b t,rds[i]?=some r->rds[j]?=some r'->i≤j->a∈r->b∈r'->Hh tbl t a->Hh tbl t b:=λi j r r' a b t hr hr' hij ha hb h=>by
  have h1:=((R.2 i r hr).2 a).mp ha;have h2:=((R.2 j r' hr').2 b).mp hb;refine H_le ?_ h2.2.1;refine Classical.byContradiction λq=>h1.2.2 (H_le (b:=t) (by exact om229 hij q) h)
 rw [List.pairwise_flatten]
 constructor
 ·intro r hr;obtain ⟨i,hi⟩:=List.mem_iff_getElem?.mp hr;rw [List.pairwise_iff_getElem];exact λm n hm hn _ t=>key i i r r _ _ t hi hi (Nat.le_refl _) (List.getElem_mem hm) (List.getElem_mem hn)
 ·rw [List.pairwise_iff_getElem];exact λi j hi hj hij a ha b hb t=>key i j _ _ a b t (List.getElem?_eq_getElem hi) (List.getElem?_eq_getElem hj) (by exact Nat.le_of_lt ‹_›) ha hb
theorem Tab.next (T:Tab tbl) (R:RdsOk tbl rds) {A C:List Str} {x:Str} (h:rds.flatten=A ++ x :: C):tget tbl x∈gsP tbl rds.flatten∨tget tbl x∈C:=by
 have hx:x∈rds.flatten:=by rw [h];simp
 obtain ⟨h1,h2⟩:=(T.came R x).mp hx
 by_cases q:Rg (tget tbl) (tget tbl x)
 ·exact .inl ((T.gs R _).mpr ⟨(T.get h1).1,q⟩)
 ·refine .inr ?_;have hm:=(T.came R _).mpr ⟨(T.get h1).1,q⟩;obtain ⟨i,hi,h3,h4⟩:=H_split (tbl:=tbl) (n:=7) λh=>h2 ((T.ringed h1).mp h);have h5:Hh tbl (i + 1) (tget tbl x):=⟨_,(T.get h1).2,rfl,h3⟩;have pw:=R.after;rw [h] at pw hm;rw [List.pairwise_append] at pw;rcases List.mem_append.mp hm with hm|hm
  ·exact absurd (pw.2.2 _ hm x (.head _) _ h5) h4
  ·rcases List.mem_cons.mp hm with e|hm
   ·rw [e] at h5;exact absurd h5 h4
   ·exact hm
theorem Tab.laid (T:Tab tbl) (R:RdsOk tbl rds):Sq (laidS tbl rds.flatten):=by
 have key:∀ C A,rds.flatten=A ++ C->Sq (chainP (gsP tbl rds.flatten) (Str.ofString "") ++ C.reverse.map λx=>(x,tget tbl x)):=by
  intro C
  induction C with
  |nil=>
   intro A _;rw [List.reverse_nil,List.map_nil,List.append_nil];exact chain_Sq _ (T.gs_nd R) λx hx=>nm7_Nm x ((T.gs R x).mp hx).1
  |cons x C ih=>
   intro A h;have hx:x∈rds.flatten:=by rw [h];simp
   obtain ⟨h1,h2⟩:=(T.came R x).mp hx;have S:=ih (A ++ [x]) (by rw [h];simp)
   have hk:(chainP (gsP tbl rds.flatten) (Str.ofString "") ++ C.reverse.map λx=>(x,tget tbl x)).map (·.1)=gsP tbl rds.flatten ++ C.reverse:=by
    rw [List.map_append,chain_keys,List.map_map];exact congrArg _ (List.map_id'' (λ_=>rfl) _)
   rw [List.reverse_cons,List.map_append,<-List.append_assoc];refine .snoc S ?_ (nm7_Nm x h1) (.inr ?_)
   ·rw [hk,List.mem_append,List.mem_reverse];rintro (q|q)
    ·exact h2 ((T.gs R x).mp q).2
    ·have:=R.nodup;rw [h,List.nodup_append] at this;exact (List.nodup_cons.mp this.2.1).1 q
   ·rw [hk,List.mem_append,List.mem_reverse];exact T.next R h
 exact key _ [] rfl
theorem laid_keys (tbl:List (Str×Str)) (came:List Str):(laidS tbl came).map (·.1)=gsP tbl came ++ came.reverse:=by
 unfold laidS;rw [List.map_append,chain_keys,List.map_map];exact congrArg _ (List.map_id'' (λ_=>rfl) _)
theorem Tab.laid_perm (T:Tab tbl) (R:RdsOk tbl rds):((laidS tbl rds.flatten).map (·.1)).Perm nm7:=by
 refine perm_of_mem (T.laid R).nd nm7_nodup λy=>?_;rw [laid_keys,List.mem_append,List.mem_reverse,T.gs R,T.came R]
 constructor
 ·rintro (h|h) <;> exact h.1
 ·intro h
  by_cases q:Rg (tget tbl) y
  ·exact .inl ⟨h,q⟩
  ·exact .inr ⟨h,q⟩
theorem Tab.laid_end (T:Tab tbl) (R:RdsOk tbl rds):endD (gsP tbl rds.flatten) (Str.ofString "")∈gsP tbl rds.flatten∧wayW (laidS tbl rds.flatten) (endD (gsP tbl rds.flatten) (Str.ofString ""))=gsP tbl rds.flatten:=by
 refine ⟨last_mem _ _ (T.gs_ne R),?_⟩;rcases List.eq_nil_or_concat (gsP tbl rds.flatten) with h|⟨k,y,h⟩
 ·exact absurd h (T.gs_ne R)
 ·rw [List.concat_eq_append] at h;have:=chain_way (T.laid R) (l:=gsP tbl rds.flatten) (λp hp=>List.mem_append_left _ hp) _ k [] y rfl h;rw [h,endD_snoc];exact this
theorem Tab.laid_way (T:Tab tbl) (R:RdsOk tbl rds):∀ (t:Nat) (x:Str),x∈nm7->(∀ s < t,¬ Rg (tget tbl) (Mine.itr (tget tbl) s x))->∃ l,wayW (laidS tbl rds.flatten) x=wayW (laidS tbl rds.flatten) (Mine.itr (tget tbl) t x) ++ l∧∀ z∈l,z∉gsP tbl rds.flatten
 |0,x,_,_=>⟨[],(List.append_nil _).symm,λz h=>nomatch h⟩
 |t + 1,x,hx,h=>by
  have hn:¬ Rg (tget tbl) x:=h 0 (by exact om219);obtain ⟨l,h1,h2⟩:=T.laid_way R t (tget tbl x) (T.get hx).1 λs hs=>by rw [itr_f];exact h (s + 1) (by exact Nat.succ_lt_succ ‹_›)
  have hp:(x,tget tbl x)∈laidS tbl rds.flatten:=List.mem_append_right _ (List.mem_map.mpr ⟨x,List.mem_reverse.mpr ((T.came R x).mpr ⟨hx,hn⟩),rfl⟩);have hs:=(T.laid R).step _ hp;refine ⟨l ++ [x],?_,λz hz=>?_⟩
  ·rw [hs];show wayW _ (tget tbl x) ++ _=_;rw [h1,itr_f,List.append_assoc];rfl
  ·rcases List.mem_append.mp hz with hz|hz
   ·exact h2 z hz
   ·rw [List.mem_singleton.mp hz];exact λq=>hn ((T.gs R x).mp q).2
theorem Tab.common (T:Tab tbl) (R:RdsOk tbl rds) {x y:Str} (hx:x∈nm7) (h:FirstIs (tget tbl) x y) :
  lcpP (wayW (laidS tbl rds.flatten) x) (gsP tbl rds.flatten)=wayW (laidS tbl rds.flatten) y:=by
 obtain ⟨t,rfl,h1,h2⟩:=h;obtain ⟨l,h3,h4⟩:=T.laid_way R t x hx h2;have hm:=(T.gs R _).mpr ⟨T.itr hx t,h1⟩;obtain ⟨a,r,e⟩:=List.append_of_mem hm;have hw:=chain_way (T.laid R) (l:=gsP tbl rds.flatten) (λp hp=>List.mem_append_left _ hp) _ a r _ rfl e;have e2:gsP tbl rds.flatten=wayW (laidS tbl rds.flatten) (Mine.itr (tget tbl) t x) ++ r:=by rw [hw];simpa using e
 rw [h3];generalize wayW (laidS tbl rds.flatten) (Mine.itr (tget tbl) t x)=p at *;rw [e2];exact lcp_pre _ _ _ λz hz hr=>h4 z hz (by rw [e2];simp [hr])
end
theorem tput_keys {tbl:List (Str×Str)} {k v:Str} (h:k∈tbl.map (·.1)):(tput tbl k v).map (·.1)=tbl.map (·.1):=by
 unfold tput;rw [if_pos (by obtain ⟨p,hp,rfl⟩:=List.mem_map.mp h;exact List.any_eq_true.mpr ⟨p,hp,by simp⟩),List.map_map];refine List.map_congr_left λp _=>?_;simp only [Function.comp]
 split <;> rfl
theorem tputs_keys:∀ {l tbl:List (Str×Str)},(∀ p∈l,p.1∈tbl.map (·.1))->(tputs tbl l).map (·.1)=tbl.map (·.1)
 |[],_,_=>rfl
 |p :: l,tbl,h=>by
  have e:=tput_keys (v:=p.2) (h p (.head _));show (tputs (tput tbl p.1 p.2) l).map (·.1)=_;rw [tputs_keys λq hq=>by rw [e];exact h q (.tail _ hq),e]
theorem lookup_map {x k v:Str}:∀ {tbl:List (Str×Str)},(tbl.map λkv=>if kv.1=k then (kv.1,v) else kv).lookup x=if x=k then (tbl.lookup x).map (λ_=>v) else tbl.lookup x
 |[]=>by simp
 |p :: r=>by
  rw [List.map_cons,List.lookup_cons,List.lookup_cons,lookup_map]
  by_cases q:p.1=k
  ·rw [if_pos q]
   by_cases e:x=k
   ·subst e;rw [q];simp
   ·have:(x == p.1)=false:=by rw [q];simpa using e
    rw [this,if_neg e]
  ·rw [if_neg q]
   by_cases e:x=k
   ·subst e;have:(x == p.1)=false:=by simpa using Ne.symm q
    rw [this]
   ·rw [if_neg e,if_neg e]
theorem lookup_tput {tbl:List (Str×Str)} {x k v:Str}:(tput tbl k v).lookup x=if x=k then some v else tbl.lookup x:=by
 unfold tput
 split
 ·rename_i h
  rw [lookup_map]
  by_cases e:x=k
  ·subst e;rw [if_pos rfl,if_pos rfl];cases q:tbl.lookup x with
   |some y=>rfl
   |none=>
    obtain ⟨p,hp,e⟩:=List.any_eq_true.mp h;have:=List.lookup_eq_none_iff.mp q p hp;rw [of_decide_eq_true e] at this;simp at this
  ·rw [if_neg e,if_neg e]
 ·rename_i h
  rw [List.lookup_append]
  by_cases e:x=k
  ·subst e
   have:tbl.lookup x=none:=List.lookup_eq_none_iff.mpr λp hp=>by
    have:=λe=>h (List.any_eq_true.mpr ⟨p,hp,decide_eq_true e⟩)
    simpa using Ne.symm this
   rw [this,if_pos rfl];simp
  ·rw [if_neg e,List.lookup_cons,show (x == k)=false by simpa using e];simp
theorem lookup_tputs {x:Str}:∀ {l tbl:List (Str×Str)},(l.map (·.1)).Nodup->(tputs tbl l).lookup x=(l.lookup x).or (tbl.lookup x)
 |[],tbl,_=>by simp [tputs]
 |p :: l,tbl,nd=>by
  rw [List.map_cons,List.nodup_cons] at nd;show (tputs (tput tbl p.1 p.2) l).lookup x=_;rw [lookup_tputs nd.2,lookup_tput,List.lookup_cons]
  by_cases e:x=p.1
  ·have:l.lookup x=none:=List.lookup_eq_none_iff.mpr λq hq=>by
    have:x≠q.1:=λh=>nd.1 (List.mem_map.mpr ⟨q,hq,by rw [<-h,e]⟩)
    simpa using this
   rw [this,if_pos e,e];simp
  ·rw [if_neg e,show (x == p.1)=false by simpa using e]
theorem zip_sub:∀ ks ws:List Str,((ks.zip ws).map (·.1)).Sublist ks
 |[],_=>by simp
 |_ :: _,[]=>by simp
 |x :: ks,y :: ws=>(zip_sub ks ws).cons_cons x
theorem zip_lookup {ks ws:List Str} {i:Nat} {x y:Str} (nd:ks.Nodup) (hx:ks[i]?=some x) (hy:ws[i]?=some y):(ks.zip ws).lookup x=some y:=by
 refine lookup_of_mem ?_ (List.mem_of_getElem? (List.getElem?_zip_eq_some.mpr ⟨hx,hy⟩));exact nd.sublist (zip_sub _ _)
section
variable {seq:List (Str×Str)}
theorem Sq.wnd (S:Sq seq):∀ x,(wayW seq x).Nodup:=by
 induction S with
 |nil=>intro x;exact List.nodup_nil
 |snoc S hn _ _ ih=>
  intro x;rw [wayW_snoc]
  split
  ·rw [List.nodup_append];exact ⟨ih _,by simp,λa ha b hb=>by cases List.mem_singleton.mp hb;rintro rfl;exact hn (S.mem _ _ ha)⟩
  ·exact ih x
theorem Sq.top (S:Sq seq):∀ p∈seq,p.2=Str.ofString ""->∀ x∈seq.map (·.1),p.1∈wayW seq x:=by
 induction S with
 |nil=>intro p h;cases h
 |@snoc seq c par S hn hc h2 ih=>
  intro p hp e x hx;rw [wayW_snoc];rcases List.mem_append.mp hp with hp|hp
  ·split
   ·refine List.mem_append_left _ ?_;rcases h2 with ⟨h,_⟩|h2
    ·subst h;cases hp
    ·exact ih p hp e par h2
   ·rename_i q
    rw [List.map_append,List.mem_append] at hx;exact ih p hp e x (hx.resolve_right λh=>q (List.mem_singleton.mp h))
  ·rw [List.mem_singleton.mp hp] at e ⊢;rcases h2 with ⟨h,_⟩|h2
   ·subst h;have:x=c:=by simpa using hx
    rw [if_pos this];simp
   ·change par=_ at e;rw [e] at h2;exact absurd rfl (S.nm _ h2).ne
noncomputable def readT (seq:List (Str×Str)) (ks:List Str) (en:Str):List (Str×Str):=tputs seq (ks.zip (wayW seq en))
structure Rd (seq:List (Str×Str)) (ks:List Str) (en:Str):Prop where
 S:Sq seq
 kp:(seq.map (·.1)).Perm nm7
 he:en∈nm7
 pm:ks.Perm (wayW seq en)
 so:sortedS ks=true
variable {ks:List Str} {en:Str}
theorem Rd.knd (D:Rd seq ks en):ks.Nodup:=D.pm.symm.nodup (D.S.wnd en)
theorem Rd.znd (D:Rd seq ks en):((ks.zip (wayW seq en)).map (·.1)).Nodup:=by
 exact D.knd.sublist (zip_sub _ _)
theorem Rd.keys (D:Rd seq ks en):(readT seq ks en).map (·.1)=seq.map (·.1):=tputs_keys λp hp=>by
 have:p.1∈ks:=(List.of_mem_zip hp).1;exact D.S.mem en _ (D.pm.mem_iff.mp this)
theorem Rd.on (D:Rd seq ks en) {i:Nat} {x:Str} (h:ks[i]?=some x):∃ y,(wayW seq en)[i]?=some y∧(readT seq ks en).lookup x=some y:=by
 have hl:=D.pm.length_eq;have h1:=(List.getElem?_eq_some_iff.mp h).1;have h2:(wayW seq en)[i]?=some (wayW seq en)[i]:=List.getElem?_eq_getElem (by exact Nat.lt_of_lt_of_eq ‹_› ‹_›);refine ⟨_,h2,?_⟩;unfold readT;rw [lookup_tputs D.znd,zip_lookup D.knd h h2];rfl
theorem Rd.off (D:Rd seq ks en) {x y:Str} (h:x∉wayW seq en) (hp:(x,y)∈seq):(readT seq ks en).lookup x=some y∧y∈nm7:=by
 constructor
 ·unfold readT
  have:(ks.zip (wayW seq en)).lookup x=none:=List.lookup_eq_none_iff.mpr λp hp=>by
   have:x≠p.1:=λe=>h (D.pm.mem_iff.mp (e▸(List.of_mem_zip hp).1))
   simpa using this
  rw [lookup_tputs D.znd,this,lookup_of_mem D.S.nd hp];rfl
 ·rcases List.mem_cons.mp (D.S.par _ hp) with e|e
  ·exact absurd (D.S.top _ hp e en (D.kp.mem_iff.mpr D.he)) h
  ·exact D.kp.mem_iff.mp e
theorem Rd.par (D:Rd seq ks en) {x:Str} (h:x∈nm7):∃ y,(x,y)∈seq:=by
 obtain ⟨p,hp,rfl⟩:=List.mem_map.mp (D.kp.mem_iff.mpr h);exact ⟨p.2,hp⟩
theorem Rd.tab (D:Rd seq ks en):Tab (readT seq ks en):=by
 refine ⟨by rw [D.keys];exact D.kp,λp hp=>?_⟩;have nd:((readT seq ks en).map (·.1)).Nodup:=by rw [D.keys];exact D.S.nd
 have hl:=lookup_of_mem (x:=p.1) (y:=p.2) nd hp;have hk:p.1∈nm7:=D.kp.mem_iff.mp (by rw [<-D.keys];exact List.mem_map.mpr ⟨p,hp,rfl⟩)
 by_cases q:p.1∈wayW seq en
 ·obtain ⟨i,hi⟩:=List.mem_iff_getElem?.mp (D.pm.mem_iff.mpr q);obtain ⟨y,h1,h2⟩:=D.on hi;rw [hl] at h2;cases h2;exact D.kp.mem_iff.mp (D.S.mem en _ (List.mem_of_getElem? h1))
 ·obtain ⟨y,hy⟩:=D.par hk;obtain ⟨h1,h2⟩:=D.off q hy;rw [hl] at h1;cases h1;exact h2
theorem Rd.f_on (D:Rd seq ks en) {x:Str} (h:x∈wayW seq en):∃ i:Nat,ks[i]?=some x∧(wayW seq en)[i]?=some (tget (readT seq ks en) x):=by
 obtain ⟨i,hi⟩:=List.mem_iff_getElem?.mp (D.pm.mem_iff.mpr h);obtain ⟨y,h1,h2⟩:=D.on hi;exact ⟨i,hi,by rw [tget_of h2];exact h1⟩
theorem Rd.stay (D:Rd seq ks en) {x:Str} (h:x∈wayW seq en):tget (readT seq ks en) x∈wayW seq en:=let ⟨_,_,h⟩:=D.f_on h;List.mem_of_getElem? h
theorem Rd.f_inj (D:Rd seq ks en) {x y:Str} (h:x∈wayW seq en) (k:y∈wayW seq en) (e:tget (readT seq ks en) x=tget (readT seq ks en) y):x=y:=by
 obtain ⟨i,h1,h2⟩:=D.f_on h;obtain ⟨j,h3,h4⟩:=D.f_on k;rw [e] at h2;have:=(List.getElem?_inj (List.getElem?_eq_some_iff.mp h2).1 (D.S.wnd en)).mp (h2.trans h4.symm);subst this;rw [h1] at h3;cases h3;rfl
theorem Rd.stays (D:Rd seq ks en) {x:Str} (h:x∈wayW seq en):∀ t,itr (tget (readT seq ks en)) t x∈wayW seq en
 |0=>h
 |t + 1=>D.stay (D.stays h t)
theorem Rd.fs_inj (D:Rd seq ks en) {x y:Str} (h:x∈wayW seq en) (k:y∈wayW seq en):∀ t,itr (tget (readT seq ks en)) t x=itr (tget (readT seq ks en)) t y->x=y
 |0,e=>e
 |t + 1,e=>D.fs_inj h k t (D.f_inj (D.stays h t) (D.stays k t) e)
theorem Rd.ring (D:Rd seq ks en) {x:Str} (hx:x∈nm7):Rg (tget (readT seq ks en)) x↔x∈wayW seq en:=by
 constructor
 ·rintro ⟨q,h1,h2⟩
  have key:∀ t,itr (tget (readT seq ks en)) t x∈wayW seq en∨(wayW seq (itr (tget (readT seq ks en)) t x)).length + t≤(wayW seq x).length:=by
   intro t
   induction t with
   |zero=>exact .inr (Nat.le_refl _)
   |succ t ih=>
    by_cases p:itr (tget (readT seq ks en)) t x∈wayW seq en
    ·exact .inl (D.stay p)
    ·have ih:=ih.resolve_left p;obtain ⟨y,hy⟩:=D.par (D.tab.itr hx t);have h3:=tget_of (D.off p hy).1;have h4:=D.S.step _ hy;refine .inr ?_;show (wayW seq (tget _ _)).length + _≤_;rw [h3];have:=congrArg List.length h4;simp at this;exact om230 ih this
  refine Classical.byContradiction λhn=>?_;have:=key q;rw [h2] at this;rcases this with h|h
  ·exact hn h
  ·exact om231 h1 h
 ·intro h;obtain ⟨i,j,h1,h2,e⟩:=D.tab.dup hx;refine ⟨j - i,by exact om188 h1,?_⟩;refine (D.fs_inj h (D.stays h (j - i)) i ?_).symm;rw [<-itr_add,show j - i + i=j by exact om232 h1];exact e
variable {rds:List (List Str)}
theorem Rd.ks_eq (D:Rd seq ks en) (R:RdsOk (readT seq ks en) rds):nm7.filter (λx=>decide (x∉rds.flatten))=ks:=by
 refine sorted_unique (pw_sorted ((sorted_pw nm7_sorted).filter _)) D.so (perm_of_mem (nm7_nodup.filter _) D.knd λx=>?_);rw [List.mem_filter,D.pm.mem_iff,decide_eq_true_eq,D.tab.came R]
 constructor
 ·rintro ⟨h1,h2⟩;exact (D.ring h1).mp (Classical.byContradiction λq=>h2 ⟨h1,q⟩)
 ·intro h;have h1:=D.kp.mem_iff.mp (D.S.mem en x h);exact ⟨h1,λq=>q.2 ((D.ring h1).mpr h)⟩
theorem Rd.gs_eq (D:Rd seq ks en) (R:RdsOk (readT seq ks en) rds):gsP (readT seq ks en) rds.flatten=wayW seq en:=by
 unfold gsP;rw [D.ks_eq R];refine List.ext_getElem? λi=>?_;rw [List.getElem?_map];cases q:ks[i]? with
 |none=>
  have:=List.getElem?_eq_none_iff.mp q;rw [D.pm.length_eq] at this;rw [List.getElem?_eq_none this];rfl
 |some x=>
  obtain ⟨y,h1,h2⟩:=D.on q;rw [h1];show some (tget _ x)=some y;rw [tget_of h2]
theorem Rd.back (D:Rd seq ks en) (R:RdsOk (readT seq ks en) rds):∀ (n:Nat) (x:Str),x∈nm7->(wayW seq x).length=n->wayW (laidS (readT seq ks en) rds.flatten) x=wayW seq x:=by
 intro n
 induction n with
 |zero=>
  intro x hx h;obtain ⟨y,hy⟩:=D.par hx;have:=congrArg List.length (D.S.step _ hy);simp at this
  omega
 |succ n ih=>
  intro x hx h;obtain ⟨y,hy⟩:=D.par hx;have hs:=D.S.step _ hy;change wayW seq x=wayW seq y ++ [x] at hs
  by_cases q:x∈wayW seq en
  ·obtain ⟨a,r,e⟩:=List.append_of_mem q;rw [D.S.pre en a r x e];exact chain_way (D.tab.laid R) (l:=wayW seq en) (λp hp=>List.mem_append_left _ (by rw [D.gs_eq R];exact hp)) _ a r x rfl e
  ·obtain ⟨h1,h2⟩:=D.off q hy;have hp:(x,y)∈laidS (readT seq ks en) rds.flatten:=List.mem_append_right _ (List.mem_map.mpr ⟨x,List.mem_reverse.mpr ((D.tab.came R x).mpr ⟨hx,λq2=>q ((D.ring hx).mp q2)⟩),by rw [tget_of h1]⟩);have:=(D.tab.laid R).step _ hp;rw [this,hs];show wayW _ y ++ _=_;rw [ih y h2 (by have:=congrArg List.length hs;simp at this;exact om233 h this)]
end
theorem Tab.back {tbl:List (Str×Str)} {rds:List (List Str)} {ks:List Str} (T:Tab tbl) (R:RdsOk tbl rds) (hk:ks.Perm (gsP tbl rds.flatten)) (hs:sortedS ks=true) {x y:Str}
  (h:(tputs (laidS tbl rds.flatten) (ks.zip (gsP tbl rds.flatten))).lookup x=some y):tbl.lookup x=some y:=by
 have hkf:nm7.filter (λx=>decide (x∉rds.flatten))=ks:=by
  refine sorted_unique (pw_sorted ((sorted_pw nm7_sorted).filter _)) hs (perm_of_mem (nm7_nodup.filter _) (hk.symm.nodup (T.gs_nd R)) λx=>?_);rw [List.mem_filter,hk.mem_iff,decide_eq_true_eq,T.came R,T.gs R];exact ⟨λ⟨a,b⟩=>⟨a,Classical.byContradiction λq=>b ⟨a,q⟩⟩,λ⟨a,b⟩=>⟨a,λq=>q.2 b⟩⟩
 have hf:∀ x∈nm7,tbl.lookup x=some (tget tbl x):=λx hx=>by
  obtain ⟨y,_,e⟩:=T.at_ hx;rw [tget_of e];exact e
 have nd:=hk.symm.nodup (T.gs_nd R);have znd:((ks.zip (gsP tbl rds.flatten)).map (·.1)).Nodup:=nd.sublist (zip_sub _ _);rw [lookup_tputs znd] at h
 by_cases q:x∈ks
 ·obtain ⟨i,hi⟩:=List.mem_iff_getElem?.mp q;have hg:(gsP tbl rds.flatten)[i]?=some (tget tbl x):=by unfold gsP;rw [List.getElem?_map,hkf,hi];rfl
  rw [zip_lookup nd hi hg] at h;rw [<-hkf] at q;rw [hf x (List.mem_filter.mp q).1];exact h
 ·have hz:(ks.zip (gsP tbl rds.flatten)).lookup x=none:=List.lookup_eq_none_iff.mpr λp hp=>by
   have:x≠p.1:=λe=>q (e▸(List.of_mem_zip hp).1)
   simpa using this
  rw [hz] at h;have hm:=mem_of_lookup' (show (laidS tbl rds.flatten).lookup x=some y from h);unfold laidS at hm;rcases List.mem_append.mp hm with hm|hm
  ·have:x∈gsP tbl rds.flatten:=by rw [<-chain_keys (gsP tbl rds.flatten) (Str.ofString "")];exact List.mem_map.mpr ⟨_,hm,rfl⟩
   exact absurd (hk.mem_iff.mpr this) q
  ·obtain ⟨z,hz2,e⟩:=List.mem_map.mp hm
   injection e with e1 e2
   subst e1 e2;exact hf z ((T.came R z).mp (List.mem_reverse.mp hz2)).1
theorem tputs_app:∀ (l t:List (Str×Str)),((t ++ l).map (·.1)).Nodup->tputs t l=t ++ l
 |[],t,_=>(List.append_nil t).symm
 |p :: l,t,nd=>by
  have e:tput t p.1 p.2=t ++ [p]:=by
   unfold tput;rw [if_neg];intro h;obtain ⟨q,hq,e⟩:=List.any_eq_true.mp h;rw [List.map_append,List.nodup_append] at nd;exact nd.2.2 q.1 (List.mem_map.mpr ⟨q,hq,rfl⟩) p.1 (by simp) (of_decide_eq_true e)
  show tputs (tput t p.1 p.2) l=_;rw [e,tputs_app l (t ++ [p]) (by simpa using nd)];simp
theorem drawn_tab {cs:List Int} (h:cs.length=7):Tab (drawnP cs 7):=by
 obtain ⟨l,hl⟩:∃ l,l=(nm7.zip (cs.map λc=>(nm7[(c.fmod 7).toNat]?).getD (Str.ofString ""))).take 7:=⟨_,rfl⟩
 have hk:l.map (·.1)=nm7:=by
  subst hl;rw [List.map_take];exact (congrArg (List.take 7) (List.map_fst_zip (by rw [List.length_map,h];decide))).trans rfl
 have hv:∀ p∈l,p.2∈nm7:=λp hp=>by
  rw [hl] at hp;have:=(List.of_mem_zip (a:=p.1) (b:=p.2) (List.mem_of_mem_take hp)).2;obtain ⟨c,_,e⟩:=List.mem_map.mp this
  have h1:(c.fmod 7).toNat < nm7.length:=by
   have h1:=Int.fmod_nonneg_of_pos c (b:=7) (by decide);have h2:=Int.fmod_lt_of_pos c (b:=7) (by decide);show _ < 7;exact om234 h1 h2
  rw [<-e,List.getElem?_eq_getElem h1];exact List.getElem_mem _
 have e:drawnP cs 7=l:=by
  unfold drawnP;rw [<-hl,tputs_app l [] (by rw [List.nil_append,hk];exact nm7_nodup)];rfl
 rw [e];exact ⟨by rw [hk],hv⟩
theorem row_perm:∀ (l:List (Str×Int)) (row:List Str) (k:Nat),(rowF row k l).Perm (row ++ l.map (·.1))
 |[],row,k=>List.Perm.of_eq (List.append_nil row).symm
 |(n,c) :: r,row,k=>by
  refine (row_perm r (insAt row ((c.fdiv 7).fmod ((k:Int) + 1)).toNat n) (k + 1)).trans ?_
  have:(insAt row ((c.fdiv 7).fmod ((k:Int) + 1)).toNat n).Perm (row ++ [n]):=by
   unfold insAt;refine List.perm_middle.trans ?_;rw [List.take_append_drop];exact (List.perm_append_singleton n row).symm
  simpa using this.append_right (r.map (·.1))
theorem zip_keys {cs:List Int} (h:cs.length=7):(nm7.zip cs).map (·.1)=nm7:=List.map_fst_zip (by rw [h];decide)
theorem gSeq_keys (row:List Str) (cs:List Int):∀ (r:List Str) (k:Nat),(gSeq row cs k r).map (·.1)=r
 |[],_=>rfl
 |x :: r,k=>by show x :: _=_;rw [gSeq_keys row cs r]
theorem gSeq_Sq {row:List Str} {cs:List Int} (nd:row.Nodup) (hn:∀ x∈row,Nm x):∀ (r:List Str) (S:List (Str×Str)),Sq S->row=S.map (·.1) ++ r->Sq (S ++ gSeq row cs S.length r)
 |[],S,h,_=>(List.append_nil S).symm▸h
 |x :: r,S,h,e=>by
  have hx:x∉S.map (·.1):=λq=>by
   rw [e,List.nodup_append] at nd;exact nd.2.2 x q x (.head _) rfl
  have h1:Sq (S ++ [(x,gParent row cs S.length)]):=by
   refine .snoc h hx (hn x (by rw [e];simp)) ?_
   by_cases q:S=[]
   ·subst q;exact .inl ⟨rfl,rfl⟩
   ·refine .inr ?_;have hp:0 < S.length:=List.length_pos_iff.mpr q;unfold gParent;rw [if_pos hp];have g1:=Int.fmod_nonneg_of_pos ((cs.getD S.length 0).fdiv 2940) (b:=(S.length:Int)) (by exact om235 hp);have g2:=Int.fmod_lt_of_pos ((cs.getD S.length 0).fdiv 2940) (b:=(S.length:Int)) (by exact om235 hp);have g3:(((cs.getD S.length 0).fdiv 2940).fmod (S.length:Int)).toNat < (S.map (·.1)).length:=by rw [List.length_map];exact om236 g1 g2
    rw [e,List.getElem?_append_left g3,List.getElem?_eq_getElem g3];exact List.getElem_mem _
  have h2:=gSeq_Sq (cs:=cs) nd hn r (S ++ [(x,gParent row cs S.length)]) h1 (by rw [e];simp);rw [List.length_append,List.append_assoc] at h2;exact h2
theorem grown_ok {cs:List Int} (h:cs.length=7):Sq (gSeq (rowF [] 0 (nm7.zip cs)) cs 0 (rowF [] 0 (nm7.zip cs)))∧((gSeq (rowF [] 0 (nm7.zip cs)) cs 0 (rowF [] 0 (nm7.zip cs))).map (·.1)).Perm nm7 ∧
  ∃ last∈nm7,(rowF [] 0 (nm7.zip cs))[((((cs.getD 0 0).fdiv 2940)).fmod 7).toNat]?=some last:=by
 have hp:=row_perm (nm7.zip cs) [] 0;rw [List.nil_append,zip_keys h] at hp;generalize rowF [] 0 (nm7.zip cs)=row at hp;refine ⟨gSeq_Sq (hp.symm.nodup nm7_nodup) (λx hx=>nm7_Nm x (hp.mem_iff.mp hx)) row [] .nil rfl,by rw [gSeq_keys];exact hp,?_⟩
 have h1:((((cs.getD 0 0).fdiv 2940)).fmod 7).toNat < row.length:=by
  have h1:=Int.fmod_nonneg_of_pos ((cs.getD 0 0).fdiv 2940) (b:=7) (by decide);have h2:=Int.fmod_lt_of_pos ((cs.getD 0 0).fdiv 2940) (b:=7) (by decide);rw [hp.length_eq];show _ < 7;exact om234 h1 h2
 exact ⟨_,hp.mem_iff.mp (List.getElem_mem h1),List.getElem?_eq_getElem h1⟩
section
variable {seq:List (Str×Str)}
theorem treeP_ok (S:Sq seq) (kp:(seq.map (·.1)).Perm nm7):(treeP (treeT seq) 7).map (·.1)=nm7∧(∀ p∈treeP (treeT seq) 7,p∈seq)∧∀ x∈nm7,(dnF (pthT (treeT seq) x)).length≤900:=by
 have hlen:seq.length=7:=by have:=kp.length_eq;rw [List.length_map] at this;exact this
 have step:∀ x∈nm7,∃ y,(x,y)∈seq∧dnF (pthT (treeT seq) x)=wp (wayW seq y):=λx hx=>by
  obtain ⟨p,hp,rfl⟩:=List.mem_map.mp (kp.mem_iff.mpr hx);have hm:p.1∈seq.map (·.1):=List.mem_map.mpr ⟨p,hp,rfl⟩;refine ⟨p.2,hp,?_⟩;rw [S.pthT (.tail _ hm),S.step p hp,dnF_wp (S.wnm _) (S.nm _ hm)]
 have hk:(nm7.map λx=>(x,bnF (dnF (pthT (treeT seq) x)))).map (·.1)=nm7:=by
  rw [List.map_map];exact List.map_id'' (λ_=>rfl) nm7
 have e:treeP (treeT seq) 7=nm7.map λx=>(x,bnF (dnF (pthT (treeT seq) x))):=by
  unfold treeP;rw [show nm7.take 7=nm7 from rfl,tputs_app _ [] (by rw [List.nil_append,hk];exact nm7_nodup)]
  rfl
 refine ⟨by rw [e,hk],λp hp=>?_,λx hx=>?_⟩
 ·rw [e] at hp;obtain ⟨x,hx,rfl⟩:=List.mem_map.mp hp;obtain ⟨y,hy,h⟩:=step x hx;rw [h,S.bn (S.par _ hy)];exact hy
 ·obtain ⟨y,hy,h⟩:=step x hx;have w1:=wp_len (S.wnm y);have w2:=S.wlen y;rw [h];exact om237 hlen w1 w2
theorem turnC (S:Sq seq) (kp:(seq.map (·.1)).Perm nm7):∃ rds2,TurnC (treeT seq) rds2:=by
 have hlen:seq.length=7:=by have:=kp.length_eq;rw [List.length_map] at this;exact this
 obtain ⟨k1,k2,_⟩:=treeP_ok S kp;generalize ht:treeP (treeT seq) 7=tbl at k1 k2;have nd:(tbl.map (·.1)).Nodup:=by rw [k1];exact nm7_nodup
 have l7:tbl.length=7:=by have:=congrArg List.length k1;rw [List.length_map] at this;exact this
 have par:∀ x∈nm7,∃ y,(x,y)∈tbl:=λx hx=>by
  obtain ⟨p,hp,rfl⟩:=List.mem_map.mp (k1▸hx:x∈tbl.map (·.1));exact ⟨p.2,hp⟩
 have fall:∀ p∈tbl,(wayW seq p.1).length=(wayW seq p.2).length + 1:=λp hp=>by
  rw [S.step p (k2 p hp)];simp
 have key:∀ p∈tbl,p.1∈nm7:=λp hp=>k1▸List.mem_map.mpr ⟨p,hp,rfl⟩
 have nn:∀ y,y∈nn0 tbl->y∈nm7∨y=Str.ofString "":=λy hy=>by
  obtain ⟨p,hp,rfl|rfl⟩:=(mem_nn0 tbl y).mp hy
  ·exact .inl (key p hp)
  ·rcases List.mem_cons.mp (S.par p (k2 p hp)) with h|h
   ·exact .inr h
   ·exact .inl (kp.mem_iff.mp h)
 have adds:∀ p∈addsP tbl,p.1∈nn0 tbl∧p.2.2=sc0 tbl p.1:=λp hp=>by
  rw [adds_mk] at hp;unfold Mine.mk at hp;obtain ⟨n,hn,rfl⟩:=List.mem_map.mp hp;exact ⟨hn,rfl⟩
 have suc:∀ x y,sc0 tbl x=[y]->(x,y)∈tbl:=λx y h=>by
  have:y∈sc0 tbl x:=by rw [h];exact .head _
  unfold sc0 at this;obtain ⟨p,hp,rfl⟩:=List.mem_map.mp this;obtain ⟨h1,h2⟩:=List.mem_filter.mp hp;have:p.1=x:=by simpa using h2
  rw [<-this];exact h1
 obtain ⟨rds,h1,R⟩:=rds_ex nd (by exact om238 l7)
 have hH:∀ t y,Hh tbl t y->t=0∨∃ x∈nm7,(wayW seq x).length=(wayW seq y).length + t:=by
  intro t
  induction t with
  |zero=>exact λ_ _=>.inl rfl
  |succ t ih=>
   rintro y ⟨p,hp,rfl,h⟩;refine .inr ?_;have hf:=fall p hp;rcases ih p.1 h with rfl|⟨x,hx,e⟩
   ·exact ⟨p.1,key p hp,by assumption⟩
   ·exact ⟨x,hx,by exact om239 hf e⟩
 have no7:∀ y∈nm7,¬ Hh tbl 7 y:=λy hy h=>by
  obtain ⟨x,hx,e⟩:=(hH 7 y h).resolve_left (by decide);obtain ⟨z,hz⟩:=par y hy;have:=fall _ hz;have:=S.wlen x;dsimp only at *;exact om240 hlen e ‹_› this
 refine ⟨rds,by rw [ht];exact l7,?_,?_,by rw [ht];exact h1,?_,λss hp hs=>?_⟩
 ·rw [ht];intro p hp;obtain ⟨h2,h3⟩:=adds p hp
  by_cases q:p.1∈tbl.map (·.1)
  ·obtain ⟨y,hy⟩:=par p.1 (k1▸q);refine .inr ⟨y,by rw [h3];exact sc0_key nd hy,?_⟩;rw [adds_mk,mk_names,mem_nn0];exact ⟨_,hy,.inr rfl⟩
  ·exact .inl (by rw [h3];exact sc0_none q)
 ·rw [ht];rintro c ⟨q,x,rfl,hq,_,hch⟩
  have hd:∀ n a,(q ++ [x])[n]?=some a->(wayW seq a).length + n=(wayW seq x).length:=by
   intro n
   induction n with
   |zero=>
    intro a ha;cases q with
    |nil=>cases hq
    |cons b r=>cases hq;cases ha;rfl
   |succ n ih=>
    intro b hb;have hn:n < (q ++ [x]).length:=by have:=(List.getElem?_eq_some_iff.mp hb).1;exact om44 this
    obtain ⟨p,hp,e1,e2⟩:=hch n _ b (List.getElem?_eq_getElem hn) hb;have h2:=ih _ (List.getElem?_eq_getElem hn);rw [(adds p hp).2] at e2;have h3:=fall _ (suc _ _ e2);rw [e1] at h3;dsimp only at h3;exact om241 hn h2 h3
  have:=hd q.length x (by simp);have:q≠[]:=by rintro rfl;cases hq
  have:=List.length_pos_iff.mpr this;exact om242 ‹_› this
 ·have h2:=nodup_len R.nodup (k:=nn0 tbl) λy hy=>((R.mem y).mp hy).1;have h3:=len_nn0 tbl;exact om243 l7 h2 h3
 ·refine sorted_unique hs nm7_sorted (hp.trans (perm_of_mem (R.nodup.filter _) nm7_nodup λy=>?_));rw [List.mem_filter,R.mem,decide_eq_true_eq]
  constructor
  ·rintro ⟨⟨h2,_⟩,h3⟩;exact (nn y h2).resolve_right h3
  ·intro h;obtain ⟨z,hz⟩:=par y h;exact ⟨⟨(mem_nn0 tbl y).mpr ⟨_,hz,.inl rfl⟩,no7 y h⟩,nm7_ne y h⟩
theorem Sq.pth (S:Sq seq) (kp:(seq.map (·.1)).Perm nm7) {x:Str} (h:x∈nm7):Mine.pthT (treeT seq) x=wp (wayW seq x):=S.pthT (.tail _ (kp.mem_iff.mpr h))
theorem tree_mem (kp:(seq.map (·.1)).Perm nm7) {x:Str} (h:x∈nm7):x∈(treeT seq).map (·.1):=by rw [treeT_names];exact .tail _ (kp.mem_iff.mpr h)
theorem tree_len (kp:(seq.map (·.1)).Perm nm7):seq.length=7∧(treeT seq).length=8:=by
 have h:seq.length=7:=by have:=kp.length_eq;rw [List.length_map] at this;exact this
 refine ⟨h,?_⟩;unfold treeT nmsP;rw [List.length_map,List.length_cons,List.length_map,h]
end
theorem Tab.turnB {tbl:List (Str×Str)} {rds:List (List Str)} (T:Tab tbl) (R:RdsOk tbl rds):TurnB tbl rds (treeT (laidS tbl rds.flatten)) (endD (gsP tbl rds.flatten) (Str.ofString "")):=by
 have S:=T.laid R;have kp:=T.laid_perm R;have hl:=(tree_len kp).1;obtain ⟨e1,e2⟩:=T.laid_end R;have hen:=((T.gs R _).mp e1).1
 have wy:∀ x,(wp (wayW (laidS tbl rds.flatten) x)).length≤900:=λx=>by
  have w1:=wp_len (S.wnm x);have w2:=S.wlen x;exact om237 hl w1 w2
 refine ⟨λx hx=>?_,?_,?_,λx hx=>tree_mem kp hx,λx hx=>?_,hen,λf hf=>?_,λi x f hx hf=>?_⟩
 ·obtain ⟨y,_,e⟩:=T.at_ ((T.came R x).mp hx).1;exact ⟨y,e⟩
 ·rw [cycSeq_eq];exact S.tree (by exact om244 hl)
 ·exact cycEnd_eq ..
 ·rw [S.pth kp hx];exact ⟨wy x,wp_starts _⟩
 ·unfold firstsP at hf;obtain ⟨x,hx,rfl⟩:=List.mem_map.mp hf;obtain ⟨t,e,_⟩:=T.first hx;rw [<-e];exact T.itr hx t
 ·have hx7:x∈nm7:=List.mem_of_getElem? hx;unfold firstsP at hf;rw [List.getElem?_map,hx] at hf;cases hf;have F:=T.first hx7
  have hf7:(Mine.dups (roadP (tget tbl) 7 x)).headD (Str.ofString "")∈nm7:=by
   obtain ⟨t,e,_⟩:=id F;rw [<-e];exact T.itr hx7 t
  rw [S.pth kp hx7,S.pth kp hen,S.pth kp hf7,cp_wp (S.wnm _) (S.wnm _),comps_wp (S.wnm _),comps_wp (S.wnm _),(min_max _ _).1];refine ⟨?_,(min_max _ _).2⟩;rw [e2,T.common R hx7 F]
theorem sub_sorted {ks l:List Str} (nd:l.Nodup) (h:∀ x∈l,x∈nm7) (e:ks=nm7.filter λx=>decide (x∈l)):ks.Perm l∧sortedS ks=true:=by
 subst e;refine ⟨perm_of_mem (nm7_nodup.filter _) nd λx=>?_,pw_sorted ((sorted_pw nm7_sorted).filter _)⟩;rw [List.mem_filter,decide_eq_true_eq];exact ⟨And.right,λq=>⟨h x q,q⟩⟩
theorem plain_ok {cs:List Int} (h:cs.length=7):PlainOk cs:=by
 obtain ⟨SG,kG,last,hl7,hlast⟩:=grown_ok h;generalize hsG:gSeq (rowF [] 0 (nm7.zip cs)) cs 0 (rowF [] 0 (nm7.zip cs))=sG at SG kG;obtain ⟨ksG,hkG⟩:∃ ks,ks=nm7.filter λx=>decide (x∈wayW sG last):=⟨_,rfl⟩;obtain ⟨pmG,soG⟩:=sub_sorted (SG.wnd last) (λx hx=>kG.mem_iff.mp (SG.mem last x hx)) hkG;have lG:=tree_len kG;have T0:=drawn_tab h;have D:Rd sG ksG last:=⟨SG,kG,hl7,pmG,soG⟩;have T1:=D.tab;obtain ⟨rd0,R0,A0⟩:=T0.turnA;obtain ⟨rd1,R1,A1⟩:=T1.turnA;have S0:=T0.laid R0;have S1:=T1.laid R1;have k0:=T0.laid_perm R0;have k1:=T1.laid_perm R1;obtain ⟨c0,C0⟩:=turnC S0 k0;obtain ⟨c1,C1⟩:=turnC S1 k1;have B0:=T0.turnB R0;have B1:=T1.turnB R1
 have en1:endD (gsP (readT sG ksG last) rd1.flatten) (Str.ofString "")=last:=by
  rw [D.gs_eq R1];obtain ⟨p,hp,e⟩:=List.mem_map.mp (kG.mem_iff.mpr hl7);have hs:=SG.step p hp;change p.1=last at e;rw [e] at hs;rw [hs,endD_snoc]
 rw [en1] at B1;obtain ⟨e1,e2⟩:=T0.laid_end R0;obtain ⟨en0,hen0⟩:∃ en0,en0=endD (gsP (drawnP cs 7) rd0.flatten) (Str.ofString ""):=⟨_,rfl⟩;rw [<-hen0] at e1 e2 B0;obtain ⟨ks0,hk0⟩:∃ ks,ks=nm7.filter λx=>decide (x∈gsP (drawnP cs 7) rd0.flatten):=⟨_,rfl⟩;obtain ⟨pm0,so0⟩:=sub_sorted (T0.gs_nd R0) (λx hx=>((T0.gs R0 x).mp hx).1) hk0;have he0:en0∈(laidS (drawnP cs 7) rd0.flatten).map (·.1):=k0.mem_iff.mpr ((T0.gs R0 _).mp e1).1;have way0:=S0.way he0;rw [e2] at way0;have wayG:=SG.way (kG.mem_iff.mpr hl7)
 refine ⟨treeT sG,last,ksG,ks0,λi=>if i=0 then drawnP cs 7 else readT sG ksG last,λi=>if i=0 then treeT (laidS (drawnP cs 7) rd0.flatten) else treeT (laidS (readT sG ksG last) rd1.flatten),
  λi=>if i=0 then en0 else last,λi=>if i=0 then rd0 else rd1,λi=>if i=0 then c0 else c1,?_,hlast,λt ht=>?_,by rw [lG.2];decide,λss hp hs=>?_,rfl,?_,rfl,λi hi=>?_,?_⟩
 ·rw [hsG];exact SG.tree (by exact om245 lG)
 ·obtain ⟨a,b,c⟩:=SG.rows (by exact om246 lG) ht;exact ⟨a,b,by exact n_t ‹_› (by decide)⟩
 ·rw [wayG] at hp;exact sorted_unique hs soG (hp.trans pmG.symm)
 ·show readT sG ksG last=_;rw [SG.read,wayG];rfl
 ·match i,hi with
  |0,_=>exact ⟨A0,B0,C0,(treeP_ok S0 k0).2.2⟩
  |1,_=>exact ⟨A1,B1,C1,(treeP_ok S1 k1).2.2⟩
 ·show EndOk (drawnP cs 7) (treeT (laidS (drawnP cs 7) rd0.flatten)) (treeT (laidS (readT sG ksG last) rd1.flatten)) (treeT sG) en0 ks0;have l0:=tree_len k0;refine ⟨λth ht=>?_,by rw [l0.2];decide,λss hp hs=>?_,?_,λx y hx=>?_,λx hx=>tree_mem k1 hx,λx hx=>tree_mem kG hx,λx hx=>?_⟩
  ·obtain ⟨a,b,c⟩:=S0.rows (by exact om246 l0) ht;exact ⟨a,b,by exact n_t ‹_› (by decide)⟩
  ·rw [way0] at hp;exact sorted_unique hs so0 (hp.trans pm0.symm)
  ·rw [S0.read,way0,<-List.length_map (f:=(·.1)),tputs_keys,k0.length_eq,T0.len]
   ·rfl
   ·exact λp hp=>k0.mem_iff.mpr ((T0.gs R0 _).mp (pm0.mem_iff.mp (List.of_mem_zip hp).1)).1
  ·rw [S0.read,way0] at hx;exact T0.back R0 pm0 so0 hx
  ·rw [S1.pth k1 hx,SG.pth kG hx,D.back R1 _ x hx rfl]
end Mine
theorem PySem.Challenge.cw_rt0098_01_holds : PySem.Challenge.rw_rt0098_01.Holds :=
  Mine.law_holds fun _ => Mine.plain_ok
