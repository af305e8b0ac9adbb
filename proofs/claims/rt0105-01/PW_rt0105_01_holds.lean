import PyProof.Rows.All
import PyProof.FactsSeq
import PyProof.DictCompW
import PyProof.IsiBase
import PyProof.ExcFactsAll.ValueError
import PyProof.StationsW
import PyProof.ReprStr
import PyProof.ExcStrAll.ValueError
import PyProof.LetGo
import PyProof.ListNew
import PyProof.RulesAs
import PyProof.ReprRoads
import PyProof.Rows.ZipGen
import PyProof.Rows.DictMethods
import PyProof.Rows.Catch
import PyProof.Rows.CatchStr
import PyProof.SumAny
import PyProof.TupleOfSeq
import PyProof.SetNew
import Open.Line
import OpenK.KWalk
import Wide.All
import PySem.Challenge.RW_rt0105_01
set_option Elab.async false
set_option maxRecDepth 100000
set_option maxHeartbeats 4000000
set_option linter.all false
set_option compiler.extract_closed false
set_option tactic.hygienic false
set_option genInjectivity false
set_option genSizeOf false
open PySem PySem.W PyProof.Rows
noncomputable section
namespace Mine
def abd {p:Prop} (h:p:=by decide+kernel):p:=h
def abl {p:Prop} (h:p:=by rfl):p:=h
def bH {p:Prop} (h:p:=by decide):p:=h
def aR {p:Prop} (h:p:=by first|(intro _ _;rfl)|(intro _ _ _;rfl)|(intro _;rfl)):p:=h
def aaT {p:Prop} (h:p:=by exact ⟨rfl,rfl,rfl,rfl,rfl,rfl,rfl,by decide+kernel⟩):p:=h
def bj {α:Type _} {a b:α} (h:a∈[b]):a=b:=List.mem_singleton.mp h
def bR {α:Type _} {a:α} {s t:List α} (h:a∈s++t):a∈s\/a∈t:=List.mem_append.mp h
def cF {α:Type _} {a b:α} {l:List α} (h:a∈b::l):a=b\/a∈l:=List.mem_cons.mp h
def bL {α:Type _} {a:α} {as:List α} (bs:List α) (h:a∈as):a∈as++bs:=List.mem_append_left bs h
def bC {α:Type _} {b:α} {bs:List α} (as:List α) (h:b∈bs):b∈as++bs:=List.mem_append_right as h
def di {α:Type _} {a:α} {l:List α}:a∈a::l:=List.mem_cons_self
def Ym {α:Type _} {a:α} {l:List α} (y:α) (h:a∈l):a∈y::l:=List.mem_cons_of_mem y h
def abQ {α β:Type _} {b:β} {f:α->β} {l:List α} (h:b∈l.map f):∃a,a∈l/\f a=b:=List.mem_map.mp h
def aa7 {α:Type _} {a:α} {p:α->Bool} {l:List α} (h:a∈l.filter p):a∈l/\p a=true:=List.mem_filter.mp h
def dp {α β:Type _} {P:α->β->Prop}:∀a b,P a b->P a b:=λ ξ ξ q=>q
abbrev Z4:=@wpAny_bind
abbrev X5:=@wpAny_pure
abbrev Zh:=@wpAny_mono
abbrev YF:=@wpAny_execs_cons
abbrev cN:=@Heap.get?_push_of_some
abbrev XG:=@wpAny_holding
abbrev ig:=@wpAny_standAt
abbrev j7:=@wpAny_items_cons
abbrev lm:=@List.length_map
abbrev gD:=@List.length_append
noncomputable def fk (i:Nat):Stmt:=match PySem.Challenge.pw_rt0105_01.main.body.drop i with
 |st::_=>st
 |[]=>.Pass default
noncomputable def K9:Stmt->List Stmt×Arguments×Scope×Expr
 | .FunctionDef _ a b _ _ _ s _ _ _=>(b,a,s,default)
 | .ClassDef _ _ _ b _ _ _ _ _ _ _=>(b,default,default,default)
 | .While _ b _ _=>(b,default,default,default)
 | .For _ _ b _ _=>(b,default,default,default)
 | .Assign _ v _=>([],default,default,v)
 |_=>([],default,default,default)
noncomputable abbrev m9 (s:Stmt):List Stmt:=(K9 s).1
noncomputable abbrev N7 (s:Stmt):Arguments:=(K9 s).2.1
noncomputable abbrev gE (s:Stmt):Scope:=(K9 s).2.2.1
def nc (i j:Nat):Stmt:=match (m9 (fk i)).drop j with
 |st::_=>st
 |[]=>.Pass default
noncomputable abbrev fV (x:String) (n:Tok):Value:=.str (Str.ofString x) n
noncomputable abbrev dR (P:Params) (x:String) (n:Tok) (v:Value):DictEntry:=⟨PyData.keyHash P (Str.ofString x),fV x n,v⟩
noncomputable abbrev pg (t:String) (d:Data) (l:List (Option Value):=[]):Obj:=⟨.type t,none,d,l.toArray⟩
noncomputable abbrev kP (x q:String) (t:Tok) (l a f:Int) (r:Addr) (v:List Value) (m:Tok):Obj:=pg "code" (.fields ([fV x t,fV q (t+1),fV "/claim/cut.py" (t+2),.int l 0,.int a 0,.int 0 0,.int 0 0,.int f 0,.ref r,.bool true,.int 181 0,.ref (r+1)]++v++[.int m 0,.int l 0,fV "/claim/cut.py" (m+1)]).toArray)
noncomputable abbrev kQ (x q:String) (S:Stmt) (d m:Value) (c:Addr):Obj:=pg "function" (.func {name:=Str.ofString x,qualname:=Str.ofString q,params:=N7 S,body:=.stmts (m9 S),scope:=gE S,globals:=3,closure:=[],defaults:=d,kwdefaults:=.none,doc:=.none,pyModule:=m,annotations:=none,code:=.ref c,closureTuple:=.none,builtins:=0})
def Yp (P:Params):Obj:=pg "dict" (.dict [dR P "__name__" 165 (fV "law_rt0105_01" 612),dR P "__doc__" 166 .none,dR P "__package__" 167 .none,dR P "__loader__" 168 (.builtin "__main__.__loader__#opaque"),dR P "__spec__" 169 .none,dR P "__annotations__" 170 (.ref 6),dR P "__builtins__" 171 (.ref 4),dR P "__file__" 173 (fV "/claim/cut.py" 172),dR P "__cached__" 174 .none,dR P "_wall" 193 (.ref 21),dR P "Entry" 257 (.ref 59),dR P "_NODE_OUT" 262 (.int (-1) 261),dR P "_NODE_DONE" 265 (.int (-2) 264),dR P "_NodeInfo" 302 (.ref 82),dR P "CycleError" 320 (.ref 97),dR P "TopologicalSorter" 439 (.ref 179),dR P "_plain_name" 450 (.ref 190),dR P "ABCMeta" 476 (.ref 207),dR P "_ABCLike" 519 (.ref 240),dR P "_abc_plain_meta" 526 (.ref 249),dR P "fspath" 538 (.ref 256),dR P "_check_arg_types" 551 (.ref 263),dR P "_get_sep" 560 (.ref 270),dR P "join" 571 (.ref 277),dR P "splitroot" 580 (.ref 284),dR P "dirname" 590 (.ref 291),dR P "normpath" 605 (.ref 298),dR P "commonpath" 611 (.ref 303),dR P "_law_read" 619 (.ref 308),dR P "_law_above" 629 (.ref 315),dR P "_law_line" 640 (.ref 322),dR P "_law_record" 646 (.ref 327),dR P "_law_refused" 655 (.ref 334),dR P "_law_walk" 661 (.ref 339),dR P "_law_due" 667 (.ref 344),dR P "law" 673 (.ref 349)].toArray 36)
def QI:Obj:=kP "__init__" "Entry.__init__" 208 7 1 3 29 [.none,.ref 31,.ref 32,.ref 33] 212
def QJ:Obj:=kQ "__init__" "Entry.__init__" (nc 2 0) .none (fV "cpy313.urllib.robotparser" 194) 34
def QK:Obj:=kP "allowance" "Entry.allowance" 234 41 2 3 50 [.none,.ref 52,.ref 53,.ref 54] 243
def QL:Obj:=kQ "allowance" "Entry.allowance" (nc 2 3) .none (fV "cpy313.urllib.robotparser" 194) 55
def Ut (P:Params):Obj:=pg "dict" (.dict [dR P "__module__" 203 (fV "cpy313.urllib.robotparser" 194),dR P "__firstlineno__" 207 (.int 5 206),dR P "__init__" 214 (.ref 35),dR P "__str__" 224 (.ref 42),dR P "applies_to" 233 (.ref 49),dR P "allowance" 245 (.ref 56),dR P "__static_attributes__" 250 (.ref 57),dR P "__dict__" 252 (.ref 60),dR P "__weakref__" 254 (.ref 61),dR P "__doc__" 255 .none].toArray 4)
def Uu:Obj:=pg "type" (.cls {name:=(Str.ofString "Entry"),bases:=[(.type "object")],mro:=[(.ref 59),(.type "object")],ns:=58,qualname:=(Str.ofString "Entry"),hasDict:=true,slotNames:=[],subclasses:=[],abstract:=false,collection:=none,hasDel:=false}) [none,none,(some (fV "Entry" 196)),(some (fV "Entry" 204)),(some (.builtin "object.__new__")),(some (.bool true))]
def Uv:Obj:=pg "getset_descriptor" (.fields [(fV "__dict__" 251),(.ref 59),(.builtin "function.__dict__"),(.builtin "function.__dict__#set")].toArray)
def Uw:Obj:=pg "getset_descriptor" (.fields [(fV "__weakref__" 253),(.ref 59),(.builtin "ExceptionGroup.__weakref__"),.none].toArray)
def QM:Obj:=kP "__init__" "_NodeInfo.__init__" 282 59 2 3 72 [.none,.ref 74,.ref 75,.ref 76] 287
def QN:Obj:=kQ "__init__" "_NodeInfo.__init__" (nc 6 1) .none (fV "cpy313.graphlib" 258) 77
def Ux (P:Params):Obj:=pg "dict" (.dict [dR P "__module__" 273 (fV "cpy313.graphlib" 258),dR P "__firstlineno__" 277 (.int 56 276),dR P "__slots__" 281 (.ref 71),dR P "__init__" 289 (.ref 78),dR P "__static_attributes__" 293 (.ref 79),dR P "node" 295 (.ref 83),dR P "npredecessors" 297 (.ref 84),dR P "successors" 299 (.ref 85),dR P "__doc__" 300 .none].toArray 5)
def Uy:Obj:=pg "type" (.cls {name:=(Str.ofString "_NodeInfo"),bases:=[(.type "object")],mro:=[(.ref 82),(.type "object")],ns:=81,qualname:=(Str.ofString "_NodeInfo"),hasDict:=false,slotNames:=[(Str.ofString "node"),(Str.ofString "npredecessors"),(Str.ofString "successors")],subclasses:=[],abstract:=false,collection:=none,hasDel:=false}) [none,none,(some (fV "_NodeInfo" 266)),(some (fV "_NodeInfo" 274)),(some (.builtin "object.__new__")),(some (.bool false))]
def Uz:Obj:=pg "member_descriptor" (.fields [(fV "node" 294),(.ref 82),(.builtin "proto.slot"),(.builtin "proto.slot#set"),(.int 2 0)].toArray)
def UA:Obj:=pg "member_descriptor" (.fields [(fV "npredecessors" 296),(.ref 82),(.builtin "proto.slot"),(.builtin "proto.slot#set"),(.int 1 0)].toArray)
def UB:Obj:=pg "member_descriptor" (.fields [(fV "successors" 298),(.ref 82),(.builtin "proto.slot"),(.builtin "proto.slot#set"),(.int 0 0)].toArray)
def MH:Obj:=pg "tuple" (.seq [.none].toArray 0)
def MI:Obj:=kP "__init__" "TopologicalSorter.__init__" 333 67 2 3 109 [.none,.ref 111,.ref 112,.ref 113] 340
def MJ:Obj:=kQ "__init__" "TopologicalSorter.__init__" (nc 8 0) (.ref 108) (fV "cpy313.graphlib" 258) 114
def MK:Obj:=kP "_get_nodeinfo" "TopologicalSorter._get_nodeinfo" 343 76 2 3 116 [.none,.ref 118,.ref 119,.ref 120] 349
def ML:Obj:=kQ "_get_nodeinfo" "TopologicalSorter._get_nodeinfo" (nc 8 1) .none (fV "cpy313.graphlib" 258) 121
def MM:Obj:=kP "add" "TopologicalSorter.add" 352 81 2 7 123 [.none,.ref 125,.ref 126,.ref 127] 361
def MN:Obj:=kQ "add" "TopologicalSorter.add" (nc 8 2) .none (fV "cpy313.graphlib" 258) 128
def MO:Obj:=kP "prepare" "TopologicalSorter.prepare" 364 90 1 3 130 [.none,.none,.none,.ref 132] 367
def MP:Obj:=kQ "prepare" "TopologicalSorter.prepare" (nc 8 3) .none (fV "cpy313.graphlib" 258) 133
def MQ:Obj:=kP "get_ready" "TopologicalSorter.get_ready" 370 98 1 3 135 [.none,.ref 137,.ref 138,.ref 139] 377
def MR:Obj:=kQ "get_ready" "TopologicalSorter.get_ready" (nc 8 4) .none (fV "cpy313.graphlib" 258) 140
def MS:Obj:=kP "is_active" "TopologicalSorter.is_active" 380 109 1 3 142 [.none,.ref 144,.ref 145,.ref 146] 384
def MT:Obj:=kQ "is_active" "TopologicalSorter.is_active" (nc 8 5) .none (fV "cpy313.graphlib" 258) 147
def HM:Obj:=kP "done" "TopologicalSorter.done" 394 117 1 7 156 [.none,.ref 158,.ref 159,.ref 160] 405
def HN:Obj:=kQ "done" "TopologicalSorter.done" (nc 8 7) .none (fV "cpy313.graphlib" 258) 161
def MU:Obj:=kP "_find_cycle" "TopologicalSorter._find_cycle" 408 140 1 3 163 [.none,.ref 165,.ref 166,.ref 167] 418
def MV:Obj:=kQ "_find_cycle" "TopologicalSorter._find_cycle" (nc 8 8) .none (fV "cpy313.graphlib" 258) 168
def QO (P:Params):Obj:=pg "dict" (.dict [dR P "__module__" 328 (fV "cpy313.graphlib" 258),dR P "__firstlineno__" 332 (.int 65 331),dR P "__init__" 342 (.ref 115),dR P "_get_nodeinfo" 351 (.ref 122),dR P "add" 363 (.ref 129),dR P "prepare" 369 (.ref 134),dR P "get_ready" 379 (.ref 141),dR P "is_active" 386 (.ref 148),dR P "__bool__" 393 (.ref 155),dR P "done" 407 (.ref 162),dR P "_find_cycle" 420 (.ref 169),dR P "static_order" 427 (.ref 176),dR P "__static_attributes__" 432 (.ref 177),dR P "__dict__" 434 (.ref 180),dR P "__weakref__" 436 (.ref 181),dR P "__doc__" 437 .none].toArray 4)
def QP:Obj:=pg "type" (.cls {name:=(Str.ofString "TopologicalSorter"),bases:=[(.type "object")],mro:=[(.ref 179),(.type "object")],ns:=178,qualname:=(Str.ofString "TopologicalSorter"),hasDict:=true,slotNames:=[],subclasses:=[],abstract:=false,collection:=none,hasDel:=false}) [none,none,(some (fV "TopologicalSorter" 321)),(some (fV "TopologicalSorter" 329)),(some (.builtin "object.__new__")),(some (.bool true))]
def QQ:Obj:=pg "getset_descriptor" (.fields [(fV "__dict__" 433),(.ref 179),(.builtin "function.__dict__"),(.builtin "function.__dict__#set")].toArray)
def QR:Obj:=pg "getset_descriptor" (.fields [(fV "__weakref__" 435),(.ref 179),(.builtin "ExceptionGroup.__weakref__"),.none].toArray)
def MW:Obj:=kP "fspath" "fspath" 529 202 1 3 250 [.none,.ref 252,.ref 253,.ref 254] 536
def MX:Obj:=kQ "fspath" "fspath" (fk 17) .none (fV "os" 527) 255
def MY:Obj:=kP "_get_sep" "_get_sep" 554 231 1 3 264 [.none,.ref 266,.ref 267,.ref 268] 558
def MZ:Obj:=kQ "_get_sep" "_get_sep" (fk 21) .none (fV "cpy313.posixpath" 552) 269
def M0:Obj:=kP "join" "join" 561 236 1 7 271 [.none,.ref 273,.ref 274,.ref 275] 569
def M1:Obj:=kQ "join" "join" (fk 22) .none (fV "cpy313.posixpath" 552) 276
def M2:Obj:=kP "splitroot" "splitroot" 572 253 1 3 278 [.none,.ref 280,.ref 281,.ref 282] 578
def M3:Obj:=kQ "splitroot" "splitroot" (fk 23) .none (fV "cpy313.posixpath" 552) 283
def M4:Obj:=kP "dirname" "dirname" 581 267 1 3 285 [.none,.ref 287,.ref 288,.ref 289] 588
def M5:Obj:=kQ "dirname" "dirname" (fk 24) .none (fV "cpy313.posixpath" 552) 290
def M6:Obj:=kP "normpath" "normpath" 591 275 1 3 292 [.none,.ref 294,.ref 295,.ref 296] 603
def M7:Obj:=kQ "normpath" "normpath" (fk 25) .none (fV "cpy313.posixpath" 552) 297
def M8:Obj:=kP "commonpath" "commonpath" 606 300 1 3 299 [.none,.none,.none,.ref 301] 609
def M9:Obj:=kQ "commonpath" "commonpath" (fk 26) .none (fV "cpy313.posixpath" 552) 302
def M':Obj:=kP "_law_read" "_law_read" 614 330 1 3 304 [.none,.none,.none,.ref 306] 617
def Na:Obj:=kQ "_law_read" "_law_read" (fk 28) .none (fV "law_rt0105_01" 612) 307
def Nb:Obj:=kP "_law_above" "_law_above" 620 342 1 3 309 [.none,.ref 311,.ref 312,.ref 313] 627
def Nc:Obj:=kQ "_law_above" "_law_above" (fk 29) .none (fV "law_rt0105_01" 612) 314
def HO:Obj:=kP "_law_line" "_law_line" 630 348 2 3 316 [.none,.ref 318,.ref 319,.ref 320] 638
def Nd:Obj:=kQ "_law_line" "_law_line" (fk 30) .none (fV "law_rt0105_01" 612) 321
def Nf:Obj:=kP "_law_record" "_law_record" 641 355 1 3 323 [.none,.none,.none,.ref 325] 644
def Ng:Obj:=kQ "_law_record" "_law_record" (fk 31) .none (fV "law_rt0105_01" 612) 326
def Nh:Obj:=kP "_law_refused" "_law_refused" 647 359 2 3 328 [.none,.ref 330,.ref 331,.ref 332] 653
def Ni:Obj:=kQ "_law_refused" "_law_refused" (fk 32) .none (fV "law_rt0105_01" 612) 333
def Nj:Obj:=kP "_law_walk" "_law_walk" 656 365 3 3 335 [.none,.none,.none,.ref 337] 659
def Nk:Obj:=kQ "_law_walk" "_law_walk" (fk 33) .none (fV "law_rt0105_01" 612) 338
def Nl:Obj:=kP "_law_due" "_law_due" 662 386 4 3 340 [.none,.none,.none,.ref 342] 665
def Nm:Obj:=kQ "_law_due" "_law_due" (fk 34) .none (fV "law_rt0105_01" 612) 343
def Nn:Obj:=kP "law" "law" 668 404 1 3 345 [.none,.none,.none,.ref 347] 671
def HP:Obj:=kQ "law" "law" (fk 35) .none (fV "law_rt0105_01" 612) 348
def KK (P:Params):PySem.W.Frag:=[(3,Yp P),(34,QI),(35,QJ),(55,QK),(56,QL),(58,Ut P),(59,Uu),(60,Uv),(61,Uw),(77,QM),(78,QN),(81,Ux P),(82,Uy),(83,Uz),(84,UA),(85,UB),(108,MH),(114,MI),(115,MJ),(121,MK),(122,ML),(128,MM),(129,MN),(133,MO),(134,MP),(140,MQ),(141,MR),(147,MS),(148,MT),(161,HM),(162,HN),(168,MU),(169,MV),(178,QO P),(179,QP),(180,QQ),(181,QR),(255,MW),(256,MX),(269,MY),(270,MZ),(276,M0),(277,M1),(283,M2),(284,M3),(290,M4),(291,M5),(297,M6),(298,M7),(302,M8),(303,M9),(307,M'),(308,Na),(314,Nb),(315,Nc),(321,HO),(322,Nd),(326,Nf),(327,Ng),(333,Nh),(334,Ni),(338,Nj),(339,Nk),(343,Nl),(344,Nm),(348,Nn),(349,HP)]
noncomputable def UC:List Addr:=[3,34,35,55,56,58,59,60,61,77,78,81,82,83,84,85,108,114,115,121,122,128,129,133,134,140,141,147,148,161,162,168,169,178,179,180,181,255,256,269,270,276,277,283,284,290,291,297,298,302,303,307,308,314,315,321,322,326,327,333,334,338,339,343,344,348,349]
def cO {abG:Prop} {p1:Prop} {C:Prop} (h:abG/\p1) (k:abG->p1->C):C:=by obtain ⟨a0,a1⟩:=h;exact k a0 a1
def eU {abG:Prop} {p1:Prop} {p2:Prop} {C:Prop} (h:abG/\p1/\p2) (k:abG->p1->p2->C):C:=by obtain ⟨a0,a1,a2⟩:=h;exact k a0 a1 a2
def jw {abG:Prop} {p1:Prop} {p2:Prop} {p3:Prop} {C:Prop} (h:abG/\p1/\p2/\p3) (k:abG->p1->p2->p3->C):C:=by obtain ⟨a0,a1,a2,a3⟩:=h;exact k a0 a1 a2 a3
def n6 {abG:Prop} {p1:Prop} {p2:Prop} {p3:Prop} {p4:Prop} {C:Prop} (h:abG/\p1/\p2/\p3/\p4) (k:abG->p1->p2->p3->p4->C):C:=by obtain ⟨a0,a1,a2,a3,a4⟩:=h;exact k a0 a1 a2 a3 a4
def gF {abG:Prop} {p1:Prop} {p2:Prop} {p3:Prop} {p4:Prop} {YL:Prop} {C:Prop} (h:abG/\p1/\p2/\p3/\p4/\YL) (k:abG->p1->p2->p3->p4->YL->C):C:=by obtain ⟨a0,a1,a2,a3,a4,a5⟩:=h;exact k a0 a1 a2 a3 a4 a5
def jG {abG:Prop} {p1:Prop} {p2:Prop} {p3:Prop} {p4:Prop} {YL:Prop} {aaW:Prop} {C:Prop} (h:abG/\p1/\p2/\p3/\p4/\YL/\aaW) (k:abG->p1->p2->p3->p4->YL->aaW->C):C:=by obtain ⟨a0,a1,a2,a3,a4,a5,abC⟩:=h;exact k a0 a1 a2 a3 a4 a5 abC
def s6 {abG:Prop} {bo:Sort _} {p1:bo->Prop} {p2:bo->Prop} {C:Prop} (h:abG/\∃x0:bo,p1 x0/\p2 x0) (k:abG->∀x0:bo,p1 x0->p2 x0->C):C:=by obtain ⟨a0,a1,a2,a3⟩:=h;exact k a0 a1 a2 a3
def uW {abG:Prop} {bo:Sort _} {p1:bo->Prop} {p2:bo->Prop} {p3:bo->Prop} {C:Prop} (h:abG/\∃x0:bo,p1 x0/\p2 x0/\p3 x0) (k:abG->∀x0:bo,p1 x0->p2 x0->p3 x0->C):C:=by obtain ⟨a0,a1,a2,a3,a4⟩:=h;exact k a0 a1 a2 a3 a4
def jH {abG:Prop} {bo:Sort _} {cA:Sort _} {eE:Sort _} {jO:Sort _} {p1:bo->cA->eE->jO->Prop} {p2:bo->cA->eE->jO->Prop} {p3:bo->cA->eE->jO->Prop} {p4:bo->cA->eE->jO->Prop} {C:Prop} (h:abG/\∃x0:bo,∃x1:cA,∃x2:eE,∃x3:jO,p1 x0 x1 x2 x3/\p2 x0 x1 x2 x3/\p3 x0 x1 x2 x3/\p4 x0 x1 x2 x3) (k:abG->∀x0:bo,∀x1:cA,∀x2:eE,∀x3:jO,p1 x0 x1 x2 x3->p2 x0 x1 x2 x3->p3 x0 x1 x2 x3->p4 x0 x1 x2 x3->C):C:=by obtain ⟨a0,a1,a2,a3,a4,a5,abC,XH,Xx⟩:=h;exact k a0 a1 a2 a3 a4 a5 abC XH Xx
def aM {bo:Sort _} {abG:bo->Prop} {C:Prop} (h:∃x0:bo,abG x0) (k:∀x0:bo,abG x0->C):C:=by obtain ⟨a0,a1⟩:=h;exact k a0 a1
def aK {bo:Sort _} {abG:bo->Prop} {p1:bo->Prop} {C:Prop} (h:∃x0:bo,abG x0/\p1 x0) (k:∀x0:bo,abG x0->p1 x0->C):C:=by obtain ⟨a0,a1,a2⟩:=h;exact k a0 a1 a2
def cZ {bo:Sort _} {abG:bo->Prop} {p1:bo->Prop} {p2:bo->Prop} {C:Prop} (h:∃x0:bo,abG x0/\p1 x0/\p2 x0) (k:∀x0:bo,abG x0->p1 x0->p2 x0->C):C:=by obtain ⟨a0,a1,a2,a3⟩:=h;exact k a0 a1 a2 a3
def rW {bo:Sort _} {abG:bo->Prop} {p1:bo->Prop} {p2:bo->Prop} {p3:bo->Prop} {C:Prop} (h:∃x0:bo,abG x0/\p1 x0/\p2 x0/\p3 x0) (k:∀x0:bo,abG x0->p1 x0->p2 x0->p3 x0->C):C:=by obtain ⟨a0,a1,a2,a3,a4⟩:=h;exact k a0 a1 a2 a3 a4
def d5 {bo:Sort _} {abG:bo->Prop} {p1:bo->Prop} {p2:bo->Prop} {p3:bo->Prop} {p4:bo->Prop} {C:Prop} (h:∃x0:bo,abG x0/\p1 x0/\p2 x0/\p3 x0/\p4 x0) (k:∀x0:bo,abG x0->p1 x0->p2 x0->p3 x0->p4 x0->C):C:=by obtain ⟨a0,a1,a2,a3,a4,a5⟩:=h;exact k a0 a1 a2 a3 a4 a5
def cS {bo:Sort _} {cA:Sort _} {abG:bo->cA->Prop} {C:Prop} (h:∃x0:bo,∃x1:cA,abG x0 x1) (k:∀x0:bo,∀x1:cA,abG x0 x1->C):C:=by obtain ⟨a0,a1,a2⟩:=h;exact k a0 a1 a2
def bu {bo:Sort _} {cA:Sort _} {abG:bo->cA->Prop} {p1:bo->cA->Prop} {C:Prop} (h:∃x0:bo,∃x1:cA,abG x0 x1/\p1 x0 x1) (k:∀x0:bo,∀x1:cA,abG x0 x1->p1 x0 x1->C):C:=by obtain ⟨a0,a1,a2,a3⟩:=h;exact k a0 a1 a2 a3
def bU {bo:Sort _} {cA:Sort _} {abG:bo->cA->Prop} {p1:bo->cA->Prop} {p2:bo->cA->Prop} {C:Prop} (h:∃x0:bo,∃x1:cA,abG x0 x1/\p1 x0 x1/\p2 x0 x1) (k:∀x0:bo,∀x1:cA,abG x0 x1->p1 x0 x1->p2 x0 x1->C):C:=by obtain ⟨a0,a1,a2,a3,a4⟩:=h;exact k a0 a1 a2 a3 a4
def jR {bo:Sort _} {cA:Sort _} {abG:bo->cA->Prop} {p1:bo->cA->Prop} {p2:bo->cA->Prop} {p3:bo->cA->Prop} {C:Prop} (h:∃x0:bo,∃x1:cA,abG x0 x1/\p1 x0 x1/\p2 x0 x1/\p3 x0 x1) (k:∀x0:bo,∀x1:cA,abG x0 x1->p1 x0 x1->p2 x0 x1->p3 x0 x1->C):C:=by obtain ⟨a0,a1,a2,a3,a4,a5⟩:=h;exact k a0 a1 a2 a3 a4 a5
def jj {bo:Sort _} {cA:Sort _} {eE:Sort _} {abG:bo->cA->eE->Prop} {C:Prop} (h:∃x0:bo,∃x1:cA,∃x2:eE,abG x0 x1 x2) (k:∀x0:bo,∀x1:cA,∀x2:eE,abG x0 x1 x2->C):C:=by obtain ⟨a0,a1,a2,a3⟩:=h;exact k a0 a1 a2 a3
def cY {bo:Sort _} {cA:Sort _} {eE:Sort _} {abG:bo->cA->eE->Prop} {p1:bo->cA->eE->Prop} {C:Prop} (h:∃x0:bo,∃x1:cA,∃x2:eE,abG x0 x1 x2/\p1 x0 x1 x2) (k:∀x0:bo,∀x1:cA,∀x2:eE,abG x0 x1 x2->p1 x0 x1 x2->C):C:=by obtain ⟨a0,a1,a2,a3,a4⟩:=h;exact k a0 a1 a2 a3 a4
def bw {bo:Sort _} {cA:Sort _} {eE:Sort _} {abG:bo->cA->eE->Prop} {p1:bo->cA->eE->Prop} {p2:bo->cA->eE->Prop} {C:Prop} (h:∃x0:bo,∃x1:cA,∃x2:eE,abG x0 x1 x2/\p1 x0 x1 x2/\p2 x0 x1 x2) (k:∀x0:bo,∀x1:cA,∀x2:eE,abG x0 x1 x2->p1 x0 x1 x2->p2 x0 x1 x2->C):C:=by obtain ⟨a0,a1,a2,a3,a4,a5⟩:=h;exact k a0 a1 a2 a3 a4 a5
def lZ {bo:Sort _} {cA:Sort _} {eE:Sort _} {abG:bo->cA->eE->Prop} {p1:bo->cA->eE->Prop} {p2:bo->cA->eE->Prop} {p3:bo->cA->eE->Prop} {C:Prop} (h:∃x0:bo,∃x1:cA,∃x2:eE,abG x0 x1 x2/\p1 x0 x1 x2/\p2 x0 x1 x2/\p3 x0 x1 x2) (k:∀x0:bo,∀x1:cA,∀x2:eE,abG x0 x1 x2->p1 x0 x1 x2->p2 x0 x1 x2->p3 x0 x1 x2->C):C:=by obtain ⟨a0,a1,a2,a3,a4,a5,abC⟩:=h;exact k a0 a1 a2 a3 a4 a5 abC
def rX {bo:Sort _} {cA:Sort _} {eE:Sort _} {jO:Sort _} {abG:bo->cA->eE->jO->Prop} {p1:bo->cA->eE->jO->Prop} {C:Prop} (h:∃x0:bo,∃x1:cA,∃x2:eE,∃x3:jO,abG x0 x1 x2 x3/\p1 x0 x1 x2 x3) (k:∀x0:bo,∀x1:cA,∀x2:eE,∀x3:jO,abG x0 x1 x2 x3->p1 x0 x1 x2 x3->C):C:=by obtain ⟨a0,a1,a2,a3,a4,a5⟩:=h;exact k a0 a1 a2 a3 a4 a5
def kR {bo:Sort _} {cA:Sort _} {eE:Sort _} {jO:Sort _} {abG:bo->cA->eE->jO->Prop} {p1:bo->cA->eE->jO->Prop} {p2:bo->cA->eE->jO->Prop} {p3:bo->cA->eE->jO->Prop} {p4:bo->cA->eE->jO->Prop} {C:Prop} (h:∃x0:bo,∃x1:cA,∃x2:eE,∃x3:jO,abG x0 x1 x2 x3/\p1 x0 x1 x2 x3/\p2 x0 x1 x2 x3/\p3 x0 x1 x2 x3/\p4 x0 x1 x2 x3) (k:∀x0:bo,∀x1:cA,∀x2:eE,∀x3:jO,abG x0 x1 x2 x3->p1 x0 x1 x2 x3->p2 x0 x1 x2 x3->p3 x0 x1 x2 x3->p4 x0 x1 x2 x3->C):C:=by obtain ⟨a0,a1,a2,a3,a4,a5,abC,XH,Xx⟩:=h;exact k a0 a1 a2 a3 a4 a5 abC XH Xx
def qB {bo:Sort _} {cA:Sort _} {eE:Sort _} {jO:Sort _} {La:Sort _} {abG:bo->cA->eE->jO->La->Prop} {p1:bo->cA->eE->jO->La->Prop} {C:Prop} (h:∃x0:bo,∃x1:cA,∃x2:eE,∃x3:jO,∃x4:La,abG x0 x1 x2 x3 x4/\p1 x0 x1 x2 x3 x4) (k:∀x0:bo,∀x1:cA,∀x2:eE,∀x3:jO,∀x4:La,abG x0 x1 x2 x3 x4->p1 x0 x1 x2 x3 x4->C):C:=by obtain ⟨a0,a1,a2,a3,a4,a5,abC⟩:=h;exact k a0 a1 a2 a3 a4 a5 abC
noncomputable def U {α β γ:Type} (T:α->β->γ) (x:α×β):γ:=T x.1 x.2
def ev {α:Type} [Nonempty α] (P:α->Prop):α:=Classical.epsilon λ x=>¬P x
def s7 {α:Type} [n:Nonempty α] (P:α->Prop) (h:P (ev P)) (x:α):P x:=Classical.byContradiction λ q=>Classical.epsilon_spec_aux n (λ x=>¬P x) ⟨x,q⟩ h
noncomputable instance:Nonempty Around:=⟨callerA⟩
noncomputable instance:Nonempty Shared:=⟨{}⟩
noncomputable instance:Nonempty Obj:=⟨⟨.none,none,.freed,#[]⟩⟩
noncomputable instance:Nonempty Heap:=⟨{}⟩
def iJ {abG:Prop} {p1:Prop} {p2:Prop} (h0:abG) (h1:p1) (h2:p2):abG/\p1/\p2:=⟨h0,h1,h2⟩
def iD {abG:Prop} {p1:Prop} {p2:Prop} {p3:Prop} (h0:abG) (h1:p1) (h2:p2) (h3:p3):abG/\p1/\p2/\p3:=⟨h0,h1,h2,h3⟩
def Fc {abG:Prop} {p1:Prop} {p2:Prop} {p3:Prop} {p4:Prop} (h0:abG) (h1:p1) (h2:p2) (h3:p3) (h4:p4):abG/\p1/\p2/\p3/\p4:=⟨h0,h1,h2,h3,h4⟩
def rY {abG:Prop} {p1:Prop} {p2:Prop} {p3:Prop} {p4:Prop} {YL:Prop} (h0:abG) (h1:p1) (h2:p2) (h3:p3) (h4:p4) (h5:YL):abG/\p1/\p2/\p3/\p4/\YL:=⟨h0,h1,h2,h3,h4,h5⟩
def A0 {abG:Prop} {bo:Sort _} {p1:bo->Prop} (h0:abG) (x0:bo) (h1:p1 x0):abG/\∃x0:bo,p1 x0:=⟨h0,x0,h1⟩
def uX {abG:Prop} {bo:Sort _} {cA:Sort _} {p1:bo->cA->Prop} {p2:bo->cA->Prop} (h0:abG) (x0:bo) (x1:cA) (h1:p1 x0 x1) (h2:p2 x0 x1):abG/\∃x0:bo,∃x1:cA,p1 x0 x1/\p2 x0 x1:=⟨h0,x0,x1,h1,h2⟩
def cV {bo:Sort _} {abG:bo->Prop} {p1:bo->Prop} (x0:bo) (h0:abG x0) (h1:p1 x0):∃x0:bo,abG x0/\p1 x0:=⟨x0,h0,h1⟩
def eX {bo:Sort _} {abG:bo->Prop} {p1:bo->Prop} {p2:bo->Prop} (x0:bo) (h0:abG x0) (h1:p1 x0) (h2:p2 x0):∃x0:bo,abG x0/\p1 x0/\p2 x0:=⟨x0,h0,h1,h2⟩
def ph {bo:Sort _} {abG:bo->Prop} {p1:bo->Prop} {p2:bo->Prop} {p3:bo->Prop} {p4:bo->Prop} (x0:bo) (h0:abG x0) (h1:p1 x0) (h2:p2 x0) (h3:p3 x0) (h4:p4 x0):∃x0:bo,abG x0/\p1 x0/\p2 x0/\p3 x0/\p4 x0:=⟨x0,h0,h1,h2,h3,h4⟩
def d8 {bo:Sort _} {cA:Sort _} {abG:bo->cA->Prop} {p1:bo->cA->Prop} (x0:bo) (x1:cA) (h0:abG x0 x1) (h1:p1 x0 x1):∃x0:bo,∃x1:cA,abG x0 x1/\p1 x0 x1:=⟨x0,x1,h0,h1⟩
def bW {bo:Sort _} {cA:Sort _} {abG:bo->cA->Prop} {p1:bo->cA->Prop} {p2:bo->cA->Prop} (x0:bo) (x1:cA) (h0:abG x0 x1) (h1:p1 x0 x1) (h2:p2 x0 x1):∃x0:bo,∃x1:cA,abG x0 x1/\p1 x0 x1/\p2 x0 x1:=⟨x0,x1,h0,h1,h2⟩
def jl {bo:Sort _} {cA:Sort _} {abG:bo->cA->Prop} {p1:bo->cA->Prop} {p2:bo->cA->Prop} {p3:bo->cA->Prop} (x0:bo) (x1:cA) (h0:abG x0 x1) (h1:p1 x0 x1) (h2:p2 x0 x1) (h3:p3 x0 x1):∃x0:bo,∃x1:cA,abG x0 x1/\p1 x0 x1/\p2 x0 x1/\p3 x0 x1:=⟨x0,x1,h0,h1,h2,h3⟩
def rZ {bo:Sort _} {cA:Sort _} {eE:Sort _} {abG:bo->cA->eE->Prop} {p1:bo->cA->eE->Prop} (x0:bo) (x1:cA) (x2:eE) (h0:abG x0 x1 x2) (h1:p1 x0 x1 x2):∃x0:bo,∃x1:cA,∃x2:eE,abG x0 x1 x2/\p1 x0 x1 x2:=⟨x0,x1,x2,h0,h1⟩
def jm {bo:Sort _} {cA:Sort _} {eE:Sort _} {abG:bo->cA->eE->Prop} {p1:bo->cA->eE->Prop} {p2:bo->cA->eE->Prop} (x0:bo) (x1:cA) (x2:eE) (h0:abG x0 x1 x2) (h1:p1 x0 x1 x2) (h2:p2 x0 x1 x2):∃x0:bo,∃x1:cA,∃x2:eE,abG x0 x1 x2/\p1 x0 x1 x2/\p2 x0 x1 x2:=⟨x0,x1,x2,h0,h1,h2⟩
def pn {bo:Sort _} {cA:Sort _} {eE:Sort _} {jO:Sort _} {abG:bo->cA->eE->jO->Prop} {p1:bo->cA->eE->jO->Prop} (x0:bo) (x1:cA) (x2:eE) (x3:jO) (h0:abG x0 x1 x2 x3) (h1:p1 x0 x1 x2 x3):∃x0:bo,∃x1:cA,∃x2:eE,∃x3:jO,abG x0 x1 x2 x3/\p1 x0 x1 x2 x3:=⟨x0,x1,x2,x3,h0,h1⟩
def gg {α:Type _} {p:α->Prop} {a:α} {l:List α} (h:p a) (k:∀b∈l,p b):∀b∈a::l,p b:=List.forall_mem_cons.mpr ⟨h,k⟩
def qV {α:Type _} {p:α->Prop}:∀b∈([]:List α),p b:=List.forall_mem_nil _
def fb {α:Type _} {a b:α} {l:List α} (n:a∉b::l):a≠b:=List.ne_of_not_mem_cons n
def f3 {α:Type _} {a b:α} {l:List α} (n:a∉b::l):a∉l:=List.not_mem_of_not_mem_cons n
def l5 {α:Type _} {a b:α} {l:List α} (h:a≠b) (k:a∉l):a∉b::l:=List.not_mem_cons_of_ne_of_not_mem h k
def pq {α:Type _} {a:α}:a∉([]:List α):=List.not_mem_nil
def pw {α:Type _} {a:α} {l:List α} (h:a∉l) (k:l.Nodup):(a::l).Nodup:=List.nodup_cons.mpr ⟨h,k⟩
def lK {α:Type _} {a:α} {l:List α} (n:(a::l).Nodup):a∉l:=(List.nodup_cons.mp n).1
def u5 {α:Type _} {a:α} {l:List α} (n:(a::l).Nodup):l.Nodup:=(List.nodup_cons.mp n).2
def nD {p:Prop} (h:false=true):p:=nomatch h
def xR {p:Prop} (h:true=false):p:=nomatch h
noncomputable def A1:Obj:=⟨.none,none,(.fields [].toArray),[].toArray⟩
def X0 (P:Params):PySem.W.Frag:=(317,A1)::KK P
def s8 (w:World):Prop:=∀(p:Program) (loose:List Str) (oW:ExcName->Option Value) (mg mb:Str->Option Value) (c:ClaimW) (cl:Str->Option Addr) (zA:ExcName->Option Value) (aE:List WData) (aj:Shared) (aa9 l:Addr) (vs:List Value) (xs:List Int) (E:Value->Shared->Prop),
 Top p loose oW mg mb aj.heap->importsNone p=true->(X0 w.params).In aj.heap->mg "law"=some (.ref aa9)->aj.heap.IsList l vs.toArray->IntsAre vs xs->xs.length<=63->aj.gens=#[]->(∀cls,c.raises aE cls=false)->c.post aE (.bool true) aE=true->
 wpAny (model PySem.Challenge.pw_rt0105_01 w) callerA (call (.ref aa9) [.ref l]) (λ v s'=>GoodWG c cl zA aE aj (.ok (.ret v)) s') E aj
def w:World:=@Classical.epsilon World ⟨⟨λ ξ ξ=>0,{strHash:=λ ξ=>0,shareClass:=λ a=>a,mergeTok:=λ t=>t,idOf:=λ a=>a,idOfShared:=λ ξ ξ=>0,followText:=λ ξ=>false,idOfImm:=λ ξ=>0}⟩⟩ λ v=>¬s8 v
def HQ (h:s8 w) (v:World):s8 v:=Classical.byContradiction λ q=>Classical.epsilon_spec_aux ⟨v⟩ (λ v=>¬s8 v) ⟨v,q⟩ h
def QS:List Addr:=317::UC
def qW:Hook:=kHook X0 QS (λ ξ=>rfl)
noncomputable def aab:Program:={PySem.Challenge.pw_rt0105_01 with main:={PySem.Challenge.pw_rt0105_01.main with body:=[fk 0,fk 2,fk 4,fk 5,fk 6,fk 7,fk 8,fk 10,fk 12,fk 14,fk 15,fk 17,fk 19,fk 21,fk 22,fk 23,fk 24,fk 25,fk 26,fk 28,fk 29,fk 30,fk 31,fk 32,fk 33,fk 34,fk 35]}}
noncomputable abbrev Np:OpenLaw:=PySem.Challenge.rw_rt0105_01
abbrev fK:OpenRow:=Np.row
def Lb:(sreFenced fK.prog.main&&((moduleNames fK.prog.main.body).isEmpty||lookedIntoSs (moduleNames fK.prog.main.body) fK.prog.main.body)&&namesResolve fK.prog&&fK.prog.boundNames.all (λ n=>!worldNames.contains n))=true:=by kernel_rfl
def Lc:noRoadLSs {strict:=!(importedModules fK.prog.main.body).all cThrough.contains,foot:=none,bare:=(["vars","dir","locals"]:List Str).filter (readsOut fK.prog fK.prog.main.body)} fK.prog.main.body=true:=by kernel_rfl
def Ld:namesMeet fK.prog fK.prog.main.body (λ ξ n=>attrL n)=true:=by kernel_rfl
def Le:looksOpen fK.prog=true:=by unfold looksOpen;exact look_both (look_both Lb Lc) Ld
def Up:(fK.loose.isEmpty&&fK.makers.isEmpty)=true:=by kernel_rfl
def Lf:fK.partSaid=true:=by unfold OpenRow.partSaid;refine look_both (look_both (look_both (look_both (look_both (look_both (look_both (look_both (look_both (look_both (look_both (look_both (look_both Le ?_) ?_) ?_) ?_) ?_) ?_) ?_) ?_) ?_) ?_) ?_) ?_) ?_;all_goals kernel_rfl
def Lg:fK.wellSaid=true:=by unfold OpenRow.wellSaid;refine look_both (look_both Lf ?_) ?_;all_goals kernel_rfl
def HR:OpenLaw.wellSaid Np=true:=by unfold OpenLaw.wellSaid;refine look_both (look_both (look_both (look_both (look_both (look_both (look_both (look_both (look_both (look_both (look_both (look_both (look_both (look_both (look_both (look_both (look_both (look_both Lg ?_) ?_) ?_) ?_) ?_) ?_) ?_) ?_) ?_) ?_) ?_) ?_) ?_) ?_) ?_) ?_) ?_) ?_;all_goals kernel_rfl
noncomputable abbrev Fd:List Str:=[Str.ofString "_NodeInfo"]
def HS:LeftO fK.prog aab Fd (λ s=>xlAt aab [] s&&recOk (RowW.records fK.toRowW) s) (Hook.obs qW) (Hook.val qW) 5122:=λ w=>by kernel_rfl
def Dc (aE:List WData):PySem.Challenge.rw_rt0105_01.row.claim.post aE (.bool true) aE=true:=by kernel_rfl
set_option maxHeartbeats 0 in
def Gq (YZ:∀w,s8 w):PySem.Challenge.rw_rt0105_01.Holds:=by
 w_on
 refine holds_law HR λ WV=>?_;refine holds_open (q:=aab) (loose:=Fd) (Xt:=λ s=>xlAt aab [] s&&recOk (RowW.records fK.toRowW) s) (XP:=XL aab []) (Yf:=Hook.obs qW) (Ya:=Hook.val qW) (YP:=Hook.says qW) (N:=5122) HS (Hook.of qW) (Hook.keeps qW)
  (λ s e=>xl_of s (Bool.and_eq_true_iff.mp e).1) XL.keeps abl abl abl (λ s e=>recFacts_of (Bool.and_eq_true_iff.mp e).2) abl (by first|assumption|decide+kernel) abd ⟨rfl,rfl,rfl,rfl,rfl,by decide+kernel⟩ ?hw ?hc
 (case hw=>w_witness2)
 intro w az aj mg mb G Y aa9 o pm cd doc dV kV ho hd HT hD Dd hg aE vals as QT HU N8 QU De;have XJ:=kIn_of Y;refine Ground.open G ?_;intro T B D TE TW
 wrow_args QT HU N8 QU De
 exact YZ _ _ _ _ _ _ _ _ _ _ _ _ _ _ _ _ T abl XJ Dd ‹aj.heap.IsList _ _› ‹IntsAre _ _› (by omega) hg aR (Dc _)
local macro_rules |`(tactic|w_up)=>`(tactic|first|decide|lia|omega)
def XN (g h:Heap):Prop:=∀b o,g.get? b=some o->h.get? b=some o
def XN.refl (h:Heap):XN h h:=λ ξ ξ e=>e
def XN.trans {f g h:Heap} (x:XN f g) (y:XN g h):XN f h:=λ b o e=>y b o (x b o e)
noncomputable def blind (a:Addr) (h:Heap):Heap:=h.update a λ o=>{o with data:=.freed}
def Df {a b:Addr} {h:Heap}:(blind a h).get? b=if b=a then none else h.get? b:=by
 unfold blind;by_cases e:b=a
 ·subst e;rw [if_pos rfl];cases hx:(h.update b λ o=>{o with data:=.freed}).get? b with
  |none=>rfl
  |some o=>
   exfalso;refine cO (Heap.get?_some_iff.mp hx) λ e1 e2=>?_;cases h with
   |mk objs l=>
    simp only [Heap.update,Array.getElem?_modify,if_true] at e1;cases hy:objs[b]?with
    |none=>rw [hy] at e1;cases e1
    |some o'=>rw [hy] at e1;cases e1;simp [Obj.isFreed] at e2
 ·rw [if_neg e];exact Heap.get?_update_other h _ (Ne.symm e)
noncomputable def hide:List Addr->Heap->Heap
 |[],h=>h
 |a::r,h=>blind a (hide r h)
def bI {b:Addr} {h:Heap}:∀{S:List Addr},(hide S h).get? b=if b∈S then none else h.get? b:=by
 intro S;induction S with
 |nil=>exact (if_neg List.not_mem_nil).symm
 |cons a r ih=>
  show (blind a (hide r h)).get? b=_;rw [Df,ih];by_cases e:b=a
  ·simp [e]
  ·simp [e]
def ao {S:List Addr} {h:Heap}:XN (hide S h) h:=λ b o e=>by
 rw [bI] at e;split at e
 ·cases e
 ·exact e
def b5 {S:List Addr} {h h':Heap} (x:∀b o,b∉S->h.get? b=some o->h'.get? b=some o):XN (hide S h) (hide S h'):=λ b o e=>by
 rw [bI] at e⊢;split at e
 ·cases e
 ·rename_i hb;rw [if_neg hb];exact x b o hb e
def aJ {S:List Addr} {h h':Heap} (x:XN h h'):XN (hide S h) (hide S h'):=b5 λ b o ξ e=>x b o e
def cT {S S':List Addr} {h:Heap} (x:∀b∈S',b∈S):XN (hide S h) (hide S' h):=λ b o e=>by
 rw [bI] at e⊢;split at e
 ·cases e
 ·rename_i hb;rw [if_neg λ h=>hb (x b h)];exact e
def dH {S S':List Addr} {h h':Heap} (x:XN h h') (n:∀b∈S',b∈S\/h.get? b=none):XN (hide S h) (hide S' h'):=λ b o e=>by
 rw [bI] at e⊢;split at e
 ·cases e
 ·rename_i hb;rw [if_neg λ m=>?_]
  ·exact x b o e
  ·rcases n b m with q|q
   ·exact hb q
   ·rw [q] at e;cases e
def get_none {h:Heap} {b:Addr} (x:h.objs.size<=b):h.get? b=none:=by
 cases e:h.get? b with
 |none=>rfl
 |some o=>exact absurd (Heap.lt_size e) (Nat.not_lt.mpr x)
structure YJ where
 p:Heap->Value->Prop
 mono:∀{g h:Heap} {v:Value},XN g h->p g v->p h v
noncomputable instance:Nonempty YJ:=⟨⟨λ ξ ξ=>True,λ ξ x=>x⟩⟩
noncomputable def lit (v:Value):YJ:=⟨λ ξ x=>x=v,λ ξ e=>e⟩
class aaK (α:Type) where
 py:α->PyData
 lay:∀a,(py a).canLay0=true
 Z':Nat
 iK:∀a,(py a).depth<=Z'
 dec:DecidableEq α
 eqv:∀a b,PyData.eqv (py a) (py b)=decide (a=b)
noncomputable instance {α:Type} [aaK α]:DecidableEq α:=aaK.dec
mutual
inductive XM (h:Heap):Value->PyData->Prop
 |none:XM h .none .none
 |bool (b:Bool):XM h (.bool b) (.bool b)
 |int (i:Int) (t:Tok):XM h (.int i t) (.int i)
 |str (x:Str) (t:Tok):XM h (.str x t) (.str x)
 |list {a:Addr} {vs:Array Value} {n:Nat} {ds:List PyData}:IsL h a vs n->lr h vs.toList ds->XM h (.ref a) (.list ds)
 |tuple {a:Addr} {vs:Array Value} {n:Nat} {ds:List PyData}:IsT h a vs n->lr h vs.toList ds->XM h (.ref a) (.tuple ds)
inductive lr (h:Heap):List Value->List PyData->Prop
 |nil:lr h [] []
 |cons {v:Value} {vs:List Value} {d:PyData} {ds:List PyData}:XM h v d->lr h vs ds->lr h (v::vs) (d::ds)
end
def XM.keeps {g h:Heap} (k:XN g h) {v:Value} {d:PyData} (r:XM g v d):XM h v d:=
 r.rec (motive_1:=λ v d ξ=>XM h v d) (motive_2:=λ vs ds ξ=>lr h vs ds) .none .bool .int .str (λ e ξ q=>.list (k _ _ e) q) (λ e ξ q=>.tuple (k _ _ e) q) .nil λ ξ ξ p q=>.cons p q
def lr.keeps {g h:Heap} (k:XN g h) {vs:List Value} {ds:List PyData} (r:lr g vs ds):lr h vs ds:=
 r.rec (motive_1:=λ v d ξ=>XM h v d) (motive_2:=λ vs ds ξ=>lr h vs ds) .none .bool .int .str (λ e ξ q=>.list (k _ _ e) q) (λ e ξ q=>.tuple (k _ _ e) q) .nil λ ξ ξ p q=>.cons p q
def XM.reads {h:Heap} {v:Value} {d:PyData} (r:XM h v d):∃as,Reads h v d as:=
 r.rec (motive_1:=λ v d ξ=>∃as,Reads h v d as) (motive_2:=λ vs ds ξ=>∃as,ReadsAll h vs ds as) ⟨_,.none⟩ (λ b=>⟨_,.bool b⟩) (λ i t=>⟨_,.int i t⟩) (λ x t=>⟨_,.str x t⟩) (λ e ξ q=>aM q λ ξ q=>⟨_,.list e rfl rfl q⟩) (λ e ξ q=>aM q λ ξ q=>⟨_,.tuple e rfl rfl q⟩) ⟨_,.nil⟩ λ ξ ξ p q=>aM p λ ξ p=>aM q λ ξ q=>⟨_,.cons p q⟩
noncomputable def zB (d:PyData):YJ:=⟨λ h v=>XM h v d,λ k r=>r.keeps k⟩
def is {α:Type} [aaK α] (a:α):YJ:=zB (aaK.py a)
noncomputable instance:aaK Bool where
 py:=.bool
 lay _:=rfl
 Z':=0
 iK _:=Nat.le_refl _
 dec:=inferInstance
 eqv a b:=by cases a<;>cases b<;>simp [PyData.eqv]
noncomputable instance:aaK Int where
 py:=.int
 lay _:=rfl
 Z':=0
 iK _:=Nat.le_refl _
 dec:=inferInstance
 eqv a b:=by simp [PyData.eqv,BEq.beq]
noncomputable instance:aaK Unit where
 py _:=.none
 lay _:=rfl
 Z':=0
 iK _:=Nat.le_refl _
 dec:=inferInstance
 eqv a b:=by simp [PyData.eqv]
structure Tx where
 cs:List Char
 deriving DecidableEq
noncomputable instance:Nonempty Tx:=⟨⟨[]⟩⟩
noncomputable def Tx.s (t:Tx):Str:=⟨(t.cs.map Char.toNat).toArray⟩
def u6:∀{a b:List Char},a.map Char.toNat=b.map Char.toNat->a=b:=by
 intro a;induction a with
 |nil=>
  intro Z2;cases Z2 with
  |nil=>intro _;exact rfl
  |cons _ _=>intro h;simp at h
 |cons Zi UD ih=>
  intro Z2;cases Z2 with
  |nil=>intro h;simp at h
  |cons y b=>
   intro h;rw [List.map_cons,List.map_cons] at h;injection h with h1 h2;rw [ih h2,Char.ext (UInt32.toNat_inj.mp h1)]
def Tx.lu {a b:Tx} (h:a.s=b.s):a=b:=by obtain ⟨a⟩:=a;obtain ⟨b⟩:=b;have h':(a.map Char.toNat).toArray=(b.map Char.toNat).toArray:=Str.mk.inj h;rw [u6 (List.toArray_inj h')]
def Tx.ok (t:Tx):PyData.strOk t.s=true:=by
 simp only [PyData.strOk,Tx.s,Array.all_eq_true_iff_forall_mem,List.mem_toArray,List.mem_map];rintro _ ⟨c,_,rfl⟩;have:=c.valid;simp only [decide_eq_true_eq];unfold Char.toNat;rcases this with h|h
 ·have:c.val.toNat<0xd800:=h;w_up
 ·exact h.2
noncomputable instance:aaK Tx where
 py t:=.str t.s
 lay t:=by show PyData.strOk _=true;exact t.ok
 Z':=0
 iK _:=Nat.le_refl _
 dec:=inferInstance
 eqv a b:=by
  simp only [PyData.eqv];by_cases h:a=b
  ·subst h;simp
  ·have:a.s≠b.s:=λ e=>h (Tx.lu e);simp [h,this]
def pA {α:Type} [aaK α]:∀xs:List α,PyData.canLayAll0 (xs.map aaK.py)=true:=by
 intro xs;induction xs with
 |nil=>exact rfl
 |cons x xs ih=>
  show (PyData.canLay0 (aaK.py x)&&PyData.canLayAll0 (xs.map aaK.py))=true;rw [aaK.lay x,ih];rfl
def zC {α:Type} [aaK α]:∀xs:List α,PyData.depthAll (xs.map aaK.py)<=aaK.Z' α:=by
 intro xs;induction xs with
 |nil=>exact Nat.zero_le _
 |cons x xs ih=>
  show max (PyData.depth (aaK.py x)) (PyData.depthAll (xs.map aaK.py))<=_;exact Nat.max_le.mpr ⟨aaK.iK x,ih⟩
def A2 {α:Type} [aaK α]:∀xs ys:List α,PyData.eqvAll (xs.map aaK.py) (ys.map aaK.py)=decide (xs=ys):=by
 intro xs;induction xs with
 |nil=>
  intro Z2;cases Z2 with
  |nil=>simp [PyData.eqvAll]
  |cons _ _=>simp [PyData.eqvAll]
 |cons x xs ih=>
  intro Z2;cases Z2 with
  |nil=>simp [PyData.eqvAll]
  |cons y ys=>
   rw [List.map_cons,List.map_cons,PyData.eqvAll,aaK.eqv,ih ys];exact (Bool.decide_and _ _).symm.trans (decide_eq_decide.mpr List.cons_eq_cons.symm)
noncomputable instance {α:Type} [aaK α]:aaK (List α) where
 py xs:=.list (xs.map aaK.py)
 lay xs:=pA xs
 Z':=aaK.Z' α+1
 iK xs:=Nat.succ_le_succ (zC xs)
 dec:=inferInstance
 eqv xs ys:=by show PyData.eqvAll _ _=_;exact A2 xs ys
structure jS (α:Type) where
 xs:List α
noncomputable instance {α:Type} [aaK α]:DecidableEq (jS α):=λ a b=>if h:a.xs=b.xs then .isTrue (by cases a;cases b;cases h;rfl) else .isFalse λ e=>h (e▸rfl)
noncomputable instance {α:Type} [aaK α]:aaK (jS α) where
 py t:=.tuple (t.xs.map aaK.py)
 lay t:=pA t.xs
 Z':=aaK.Z' α+1
 iK t:=Nat.succ_le_succ (zC t.xs)
 dec:=inferInstance
 eqv a b:=by show PyData.eqvAll _ _=_;rw [A2];exact decide_eq_decide.mpr ⟨λ h=>by cases a;cases b;cases h;rfl,λ h=>h▸rfl⟩
def Yd {a b c d:Nat} (h:a<=b) (k:c<=d):max a c<=max b d:=Nat.max_le.mpr ⟨Nat.le_trans h (Nat.le_max_left ..),Nat.le_trans k (Nat.le_max_right ..)⟩
def Zp {a b:Nat} (h:a<=b):max a 0<=b:=Nat.max_le.mpr ⟨h,Nat.zero_le _⟩
def u7 {p q:Prop} [Decidable p] [Decidable q]:(decide p&&decide q)=decide (p/\q):=(Bool.decide_and p q).symm
noncomputable instance {α β:Type} [aaK α] [aaK β]:aaK (α×β) where
 py t:=.tuple [aaK.py t.1,aaK.py t.2]
 lay t:=by show (_&&(_&&true))=true;rw [aaK.lay,aaK.lay];rfl
 Z':=max (aaK.Z' α) (aaK.Z' β)+1
 iK t:=Nat.succ_le_succ (Yd (aaK.iK t.1) (Zp (aaK.iK t.2)))
 dec:=inferInstance
 eqv a b:=by show (_&&(_&&true))=_;rw [aaK.eqv,aaK.eqv,Bool.and_true,u7];exact decide_eq_decide.mpr Prod.ext_iff.symm
structure X7 (α β γ:Type) where
 a:α
 b:β
 c:γ
def QV {α β γ:Type} {x y:X7 α β γ}:(x.a=y.a/\x.b=y.b/\x.c=y.c)<->x=y:=⟨λ h=>eU h λ p q r=>show X7.mk x.a x.b x.c=y by rw [p,q,r],λ h=>h▸⟨rfl,rfl,rfl⟩⟩
noncomputable instance {α β γ:Type} [aaK α] [aaK β] [aaK γ]:aaK (X7 α β γ) where
 py t:=.tuple [aaK.py t.a,aaK.py t.b,aaK.py t.c]
 lay t:=by show (_&&(_&&(_&&true)))=true;rw [aaK.lay,aaK.lay,aaK.lay];rfl
 Z':=max (aaK.Z' α) (max (aaK.Z' β) (aaK.Z' γ))+1
 iK t:=Nat.succ_le_succ (Yd (aaK.iK t.a) (Yd (aaK.iK t.b) (Zp (aaK.iK t.c))))
 dec _ _:=decidable_of_iff _ QV
 eqv x y:=by show (_&&(_&&(_&&true)))=_;rw [aaK.eqv,aaK.eqv,aaK.eqv,Bool.and_true,u7,u7];exact decide_eq_decide.mpr QV
structure Y7 (α β γ δ ε:Type) where
 a:α
 b:β
 c:γ
 d:δ
 e:ε
def QW {α β γ δ ε:Type} {x y:Y7 α β γ δ ε}:(x.a=y.a/\x.b=y.b/\x.c=y.c/\x.d=y.d/\x.e=y.e)<->x=y:=⟨λ h=>n6 h λ p q r s u=>show Y7.mk x.a x.b x.c x.d x.e=y by rw [p,q,r,s,u],λ h=>h▸⟨rfl,rfl,rfl,rfl,rfl⟩⟩
noncomputable instance {α β γ δ ε:Type} [aaK α] [aaK β] [aaK γ] [aaK δ] [aaK ε]:aaK (Y7 α β γ δ ε) where
 py t:=.tuple [aaK.py t.a,aaK.py t.b,aaK.py t.c,aaK.py t.d,aaK.py t.e]
 lay t:=by show (_&&(_&&(_&&(_&&(_&&true)))))=true;rw [aaK.lay,aaK.lay,aaK.lay,aaK.lay,aaK.lay];rfl
 Z':=max (aaK.Z' α) (max (aaK.Z' β) (max (aaK.Z' γ) (max (aaK.Z' δ) (aaK.Z' ε))))+1
 iK t:=Nat.succ_le_succ (Yd (aaK.iK t.a) (Yd (aaK.iK t.b) (Yd (aaK.iK t.c) (Yd (aaK.iK t.d) (Zp (aaK.iK t.e))))))
 dec _ _:=decidable_of_iff _ QW
 eqv x y:=by show (_&&(_&&(_&&(_&&(_&&true)))))=_;rw [aaK.eqv,aaK.eqv,aaK.eqv,aaK.eqv,aaK.eqv,Bool.and_true,u7,u7,u7,u7];exact decide_eq_decide.mpr QW
def AllP (h:Heap):List YJ->List Value->Prop
 |[],[]=>True
 |P::YN,v::vs=>P.p h v/\AllP h YN vs
 |_,_=>False
def AllP.ind {h:Heap} {M:List YJ->List Value->Prop} (z:M [] []) (c:∀P YN v vs,P.p h v->AllP h YN vs->M YN vs->M (P::YN) (v::vs)):∀{YN:List YJ} {vs:List Value},AllP h YN vs->M YN vs:=by
 intro YN;induction YN with
 |nil=>
  intro Z2;cases Z2 with
  |nil=>intro _;exact z
  |cons _ _=>intros;exact False.elim (by assumption)
 |cons Zi UD ih=>
  intro Z2;cases Z2 with
  |nil=>intros;exact False.elim (by assumption)
  |cons _ _=>intro p;exact c _ _ _ _ p.1 p.2 (ih p.2)
def AllP.mono {g h:Heap} (k:XN g h) {YN:List YJ} {vs:List Value} (x:AllP g YN vs):AllP h YN vs:=x.ind (M:=AllP h) trivial λ P ξ ξ ξ a ξ b=>⟨P.mono k a,b⟩
def AllP.length {h:Heap} {YN:List YJ} {vs:List Value} (x:AllP h YN vs):vs.length=YN.length:=x.ind (M:=λ YN vs=>vs.length=YN.length) rfl λ ξ ξ ξ ξ ξ ξ e=>congrArg (·+1) e
def AllP.append {h:Heap} {YN aak:List YJ} {vs ws:List Value} (x:AllP h YN vs) (y:AllP h aak ws):AllP h (YN++aak) (vs++ws):=x.ind (M:=λ YN vs=>AllP h (YN++aak) (vs++ws)) y λ ξ ξ ξ ξ a ξ b=>⟨a,b⟩
def AllP.get {h:Heap} {YN:List YJ} {vs:List Value} {i:Nat} {P:YJ} (x:AllP h YN vs) (e:YN[i]? =some P):∃v,vs[i]? =some v/\P.p h v:=
 x.ind (M:=λ YN vs=>∀i P,YN[i]? =some P->∃v,vs[i]? =some v/\P.p h v) (λ i P e=>by simp at e) (λ Q YN v vs a ξ ih i P e=>by
  cases i with
  |zero=>cases e;exact cV v rfl a
  |succ i=>exact ih i P e) i P e
def AllP.take {h:Heap} {YN:List YJ} {vs:List Value} (n:Nat) (x:AllP h YN vs):AllP h (YN.take n) (vs.take n):=
 x.ind (M:=λ YN vs=>∀n,AllP h (YN.take n) (vs.take n)) (λ n=>by simp;trivial) (λ ξ ξ ξ ξ a ξ ih n=>by
  cases n with
  |zero=>trivial
  |succ n=>exact ⟨a,ih n⟩) n
def AllP.drop {h:Heap} {YN:List YJ} {vs:List Value} (n:Nat) (x:AllP h YN vs):AllP h (YN.drop n) (vs.drop n):=
 x.ind (M:=λ YN vs=>∀n,AllP h (YN.drop n) (vs.drop n)) (λ n=>by simp;trivial) (λ ξ ξ ξ ξ a b ih n=>by
  cases n with
  |zero=>exact ⟨a,b⟩
  |succ n=>exact ih n) n
noncomputable def cH (YN:List YJ):YJ:=⟨λ h v=>∃a vs n,v= .ref a/\IsL h a vs n/\AllP h YN vs.toList,λ k x=>bw x λ a vs n e l x=>jm a vs n e (k _ _ l) (x.mono k)⟩
noncomputable def f5 (YN:List YJ):YJ:=⟨λ h v=>∃a vs n,v= .ref a/\IsT h a vs n/\AllP h YN vs.toList,λ k x=>bw x λ a vs n e l x=>jm a vs n e (k _ _ l) (x.mono k)⟩
def pB {h:Heap}:∀{ds:List PyData} {vs:List Value},lr h vs ds->AllP h (ds.map zB) vs:=by
 intro ds;induction ds with
 |nil=>intro _ r;cases r;trivial
 |cons _ _ ih=>
  intro _ r;cases r with
  |cons a b=>exact ⟨a,ih b⟩
def pC {h:Heap} {ds:List PyData}:∀{vs:List Value},AllP h (ds.map zB) vs->lr h vs ds:=by
 induction ds with
 |nil=>intro vs p;cases vs with
  |nil=>exact .nil
  |cons=>exact p.elim
 |cons d ds ih=>intro vs p;cases vs with
  |nil=>exact p.elim
  |cons v vs=>exact .cons p.1 (ih p.2)
def Gr {h:Heap} {ds:List PyData} {v:Value}:(zB (.list ds)).p h v<->(cH (ds.map zB)).p h v:=by
 constructor
 ·intro r;cases r with
  |list h1 h4=>exact jm _ _ _ rfl h1 (pB h4)
 ·rintro ⟨a,vs,n,rfl,h1,x⟩;exact .list h1 (pC x)
def r2 {h:Heap} {ds:List PyData} {v:Value}:(zB (.tuple ds)).p h v<->(f5 (ds.map zB)).p h v:=by
 constructor
 ·intro r;cases r with
  |tuple h1 h4=>exact jm _ _ _ rfl h1 (pB h4)
 ·rintro ⟨a,vs,n,rfl,h1,x⟩;exact .tuple h1 (pC x)
def Fe {α:Type} [aaK α] (xs:List α):(xs.map aaK.py).map zB=xs.map is:=by rw [List.map_map];rfl
def is_list {α:Type} [aaK α] {h:Heap} {xs:List α} {v:Value}:(is xs).p h v<->(cH (xs.map is)).p h v:=by rw [<-Fe];exact Gr
def is_tup {α:Type} [aaK α] {h:Heap} {t:jS α} {v:Value}:(is t).p h v<->(f5 (t.xs.map is)).p h v:=by rw [<-Fe];exact r2
def kS {α β:Type} [aaK α] [aaK β] {h:Heap} {t:α×β} {v:Value}:(is t).p h v<->(f5 [is t.1,is t.2]).p h v:=r2
def Dg {α β γ:Type} [aaK α] [aaK β] [aaK γ] {h:Heap} {t:X7 α β γ} {v:Value}:(is t).p h v<->(f5 [is t.a,is t.b,is t.c]).p h v:=r2
def s9 {α β γ δ ε:Type} [aaK α] [aaK β] [aaK γ] [aaK δ] [aaK ε] {h:Heap} {t:Y7 α β γ δ ε} {v:Value}:(is t).p h v<->(f5 [is t.a,is t.b,is t.c,is t.d,is t.e]).p h v:=r2
def bD {h:Heap} {i:Int} {v:Value}:(is i).p h v<->∃t,v= .int i t:=by
 constructor
 ·intro r;cases r;exact ⟨_,rfl⟩
 ·rintro ⟨t,rfl⟩;exact .int _ _
def is_bool {h:Heap} {b:Bool} {v:Value}:(is b).p h v<->v= .bool b:=by
 constructor
 ·intro r;cases r;rfl
 ·rintro rfl;exact .bool _
def bz {h:Heap} {x:Tx} {v:Value}:(is x).p h v<->∃t,v= .str x.s t:=by
 constructor
 ·intro r;cases r;exact ⟨_,rfl⟩
 ·rintro ⟨t,rfl⟩;exact .str _ _
def fe {h:Heap} {u:Unit} {v:Value}:(is u).p h v<->v= .none:=by
 constructor
 ·intro r;cases r;rfl
 ·rintro rfl;exact .none
noncomputable abbrev XX:Program:=PySem.Challenge.pw_rt0105_01
structure er (h:Heap):Prop where
 k:(KK w.params).In h
 t:∃q loose oW mg mb,Top q loose oW mg mb h/\importsNone q=true
def er.mono {g h:Heap} (x:XN g h) (T:er g):er h:=
 ⟨T.k.keeps x,let ⟨q,l,m,a,b,t,e⟩:=T.t;⟨q,l,m,a,b,t.keeps x,e⟩⟩
structure cy (n:Nat) (A:Around):Prop where
 handled:A.handled=none
 depth:A.depth+n<900
 units:A.units+10*n+300<cLine
 guards:A.guards=some []
 frames:∃l,A.frames=some l
def cy.less {m n:Nat} {A:Around} (x:cy n A) (h:m<=n):cy m A:=
 ⟨x.handled,by have:=x.depth;w_up,by have:=x.units;w_up,x.guards,x.frames⟩
def cy.deeper {n:Nat} {A:Around} (x:cy (n+1) A) (aa:Env):cy n (A.deeper aa) where
 handled:=x.handled
 depth:=by have:=x.depth;show A.depth+1+n<900;w_up
 units:=by have:=x.units;show A.units+3+10*n+300<cLine;w_up
 guards:=x.guards
 frames:=by refine aM x.frames λ l e=>?_;exact ⟨aa::l,by show A.frames.map _=_;rw [e];rfl⟩
def cy.in1 {n:Nat} {A:Around} (x:cy (n+1) A):cy n A.in1 where
 handled:=x.handled
 depth:=by have:=x.depth;show A.depth+n<900;w_up
 units:=by have:=x.units;show A.units+1+10*n+300<cLine;w_up
 guards:=x.guards
 frames:=x.frames
abbrev eV:=List (Str×YJ)
abbrev ly:=List (Str×NameKind)
def et (S:List Addr) (aa:Env) (h:Heap) (n:Str) (P:YJ):Prop:=
 match aa.kindOf n with
 |some .local=>∃m v,h.Ns aa.locals m/\m n=some v/\P.p (hide S h) v
 |some .cell|some .free=>∃c v,aa.cells.lookup n=some c/\h.IsCell c (some v)/\P.p (hide S h) v
 |_=>True
def et.map {S S':List Addr} {aa:Env} {h h':Heap} {n:Str} {P P':YJ} (x:et S aa h n P) (l:∀m v,h.Ns aa.locals m->m n=some v->P.p (hide S h) v->∃m v,h'.Ns aa.locals m/\m n=some v/\P'.p (hide S' h') v)
  (c:(aa.kindOf n=some .cell\/aa.kindOf n=some .free)->∀c v,aa.cells.lookup n=some c->h.IsCell c (some v)->P.p (hide S h) v->∃c v,aa.cells.lookup n=some c/\h'.IsCell c (some v)/\P'.p (hide S' h') v):et S' aa h' n P':=by
 unfold et at x⊢;cases hk:aa.kindOf n with
 |none=>trivial
 |some k=>
  rw [hk] at x c;cases k with
  |«local»=>exact bU x l
  |cell=>exact bU x (c (.inl rfl))
  |free=>exact bU x (c (.inr rfl))
  |_=>trivial
def et.mono {S:List Addr} {aa:Env} {g h:Heap} {n:Str} {P:YJ} (k:XN g h) (x:et S aa g n P):et S aa h n P:=
 x.map (λ m v a b c=>bW m v (a.keeps k) b (P.mono (aJ k) c)) λ ξ c v a b d=>bW c v a (b.keeps k) (P.mono (aJ k) d)
structure XK (sc:ly) (ρ:eV) (S:List Addr) (aa:Env) (h:Heap):Prop where
 names:aa.scope.names=sc
 kind:aa.scope.kind= .function
 glob:aa.globals=mainGlobals
 bi:aa.builtins=builtinsNs
 vars:∀n P,ρ.lookup n=some P->et S aa h n P
 b4:∀b∈S,∃o,h.get? b=some o
 top:er (hide S h)
section
variable {sc:ly} {ρ:eV} {S:List Addr} {aa:Env} {g h:Heap} {A:Around} {s:Shared} {e l r:Expr} {P aV a6 R:YJ} {ar:Pos}
def XK.mono (k:XN g h) (c:XK sc ρ S aa g):XK sc ρ S aa h:=
 ⟨c.names,c.kind,c.glob,c.bi,λ n P e=>(c.vars n P e).mono k,λ b hb=>let ⟨o,e⟩:=c.b4 b hb;⟨o,k _ _ e⟩,c.top.mono (aJ k)⟩
def XK.kindOf (c:XK sc ρ S aa h) (n:Str):aa.kindOf n=sc.lookup n:=by rw [Env.kindOf,c.names]
def kle {s':Shared} (k:Keeps s s'):XN s.heap s'.heap:=by refine bu k λ h' tk ff e=>?_;subst ff;exact e
def cB (s:Shared):Keeps s s:=⟨_,_,rfl,λ ξ ξ e=>e⟩
def aL {s' gh:Shared} (a:Keeps s s') (b:Keeps s' gh):Keeps s gh:=by refine bu a λ h t fR e=>?_;subst fR;refine bu b λ h' t' eK e'=>?_;subst eK;exact d8 h' t' rfl (λ b o x=>e' b o (e b o x))
def dG (s:Shared) (t:Nat):Keeps s {s with toks:=t}:=⟨_,_,rfl,λ ξ ξ e=>e⟩
def gK (s:Shared) (o:Obj) (t:Nat):Keeps s {s with heap:=s.heap.push o,toks:=t}:=⟨_,_,rfl,λ ξ ξ e=>cN _ e⟩
def End (S:List Addr) (P:YJ) (s:Shared):Value->Shared->Prop:=λ v s'=>Keeps s s'/\P.p (hide S s'.heap) v
def dj:Value->Shared->Prop:=λ ξ ξ=>False
def eY {E:Value->Shared->Prop}:∀e s,dj e s->E e s:=λ ξ ξ f=>f.elim
def Ev (A:Around) (sc:ly) (ρ:eV) (e:Expr) (P:YJ):Prop:=
 ∀S aa s,XK sc ρ S aa s.heap->wpAny (model XX w) A (eval e aa) (End S P s) dj s
def Ev.use {Q:Value->Shared->Prop} {E:Value->Shared->Prop} (x:Ev A sc ρ e P) (c:XK sc ρ S aa s.heap)
  (k:∀v s',Keeps s s'->XK sc ρ S aa s'.heap->P.p (hide S s'.heap) v->Q v s'):wpAny (model XX w) A (eval e aa) Q E s:=
 Zh (x S aa s c) (λ v s' q=>k v s' q.1 (c.mono (kle q.1)) q.2) eY
def Ev.imp (x:Ev A sc ρ e P) (k:∀h v,P.p h v->R.p h v):Ev A sc ρ e R:=
 λ S aa s c=>x.use c λ v s' a ξ b=>⟨a,k _ _ b⟩
def bX {i:Int} {k:Nat}:Ev A sc ρ (.Constant (.int i) k ar) (is i):=
 λ S aa s ξ=>wpAny_Constant_int ⟨dG _ _,bD.mpr ⟨_,rfl⟩⟩
def cD {x:Str} {k:Nat} (t:Tx) (q:x=t.s):Ev A sc ρ (.Constant (.str x) k ar) (is t):=
 λ S aa s ξ=>wpAny_Constant_str ⟨dG _ _,bz.mpr ⟨_,by rw [q]⟩⟩
def u9 {b:Bool} {k:Nat}:Ev A sc ρ (.Constant (.bool b) k ar) (is b):=
 λ S aa s ξ=>wpAny_Constant_bool ⟨cB _,is_bool.mpr rfl⟩
def ik {k:Nat}:Ev A sc ρ (.Constant .none k ar) (is ()):=
 λ S aa s ξ=>wpAny_Constant_none ⟨cB _,fe.mpr rfl⟩
def af {n:Str} (hl:ρ.lookup n=some P:=by rfl) (hk:sc.lookup n=some .local\/sc.lookup n=some .cell\/sc.lookup n=some .free:=by decide+kernel)
  (hd:(n==("__debug__":Str))=false:=by decide+kernel) (lS:(n==("__classdict__":Str))=false:=by decide+kernel):Ev A sc ρ (.Name n ar) P:=λ S aa s c=>by
 have x:=c.vars n P hl;have Y4:=c.kindOf n;unfold et at x;rcases hk with hk|hk|hk
 ·rw [hk] at Y4;rw [Y4] at x;refine bU x λ m v a b d=>?_;exact wpAny_Name (wpAny_loadName_local c.kind Y4 a b ⟨cB _,d⟩) hd
 ·rw [hk] at Y4;rw [Y4] at x;refine bU x λ m v a b d=>?_;exact wpAny_Name (wpAny_loadName_cell c.kind Y4 a b ⟨cB _,d⟩) hd
 ·rw [hk] at Y4;rw [Y4] at x;refine bU x λ m v a b d=>?_;exact wpAny_Name (wpAny_loadName_free c.kind Y4 a b ⟨cB _,d⟩ lS) hd
def vc {n:Str} {v:Value} {Q:Value->Shared->Prop} {E:Value->Shared->Prop} (c:XK sc ρ S aa s.heap) (hg:nsIn (KK w.params) mainGlobals n=some (some v)) (q:Q v s):
  wpAny (model XX w) A (loadGlobal aa n) Q E s:=by
 unfold loadGlobal;rw [c.glob];exact Z4 ((looks_nsIn (M:=model XX w) (c.top.k.keeps ao) hg).here (X5 q))
def cI {n:Str} {v:Value} (hk:sc.lookup n=some .globalImplicit:=by decide+kernel) (hd:(n==("__debug__":Str))=false:=by decide+kernel) (hg:nsIn (KK w.params) mainGlobals n=some (some v):=by rfl):Ev A sc ρ (.Name n ar) (lit v):=
 λ S aa s c=>Calls.Name_function_global c.kind ((c.kindOf n).trans hk) (vc c hg ⟨cB _,rfl⟩) hd
def aQ {n:Str} {v:Value} (hk:sc.lookup n=some .globalImplicit:=by decide+kernel) (hd:(n==("__debug__":Str))=false:=by decide+kernel) (hg:nsIn (KK w.params) mainGlobals n=some none:=by rfl) (hn:n≠"__name__":=by decide+kernel) (hb:bootBuiltins n=some v:=by rfl):
  Ev A sc ρ (.Name n ar) (lit v):=λ S aa s c=>by
 refine Calls.Name_function_global c.kind ((c.kindOf n).trans hk) ?_ hd;unfold loadGlobal;rw [c.glob];refine Z4 ((looks_nsIn (M:=model XX w) (c.top.k.keeps ao) hg).here ?_);refine qB c.top.t λ q l m mg mb T ξ=>?_;rw [c.bi];refine Z4 (wpAny_nsGet (T.b.keeps ao) ?_);rw [T.builtins n hn,hb];exact X5 ⟨cB _,rfl⟩
def fm (A:Around) (f:Value->Value->Sem Value) (aV a6 P:YJ):Prop:=
 ∀S (s:Shared) a b,er (hide S s.heap)->(∀b∈S,∃o,s.heap.get? b=some o)->aV.p (hide S s.heap) a->a6.p (hide S s.heap) b->wpAny (model XX w) A (f a b) (End S P s) dj s
def c6 {op:Operator} (hl:Ev A sc ρ l aV) (hr:Ev A sc ρ r a6) (ho:fm A (binaryOp op) aV a6 P):Ev A sc ρ (.BinOp l op r ar) P:=λ S aa s c=>
 wpAny_BinOp (hl.use c λ a aj k₁ c₁ aZ=>hr.use c₁ λ b aA k₂ c₂ cG=>
  Zh (ho S aA a b c₂.top c₂.b4 (aV.mono (aJ (kle k₂)) aZ) cG) (λ v s' q=>⟨aL (aL k₁ k₂) q.1,q.2⟩) dp)
def r3 {op:CmpOp} (hl:Ev A sc ρ l aV) (hr:Ev A sc ρ r a6) (ho:fm A (compareOp op) aV a6 P) (hm:behindInMarks op r=false:=by rfl):Ev A sc ρ (.Compare l [op] [r] ar) P:=λ S aa s c=>
 wpAny_Compare1 (hm:=hm) (hl.use c λ a aj k₁ c₁ aZ=>hr.use c₁ λ b aA k₂ c₂ cG=>
  Zh (ho S aA a b c₂.top c₂.b4 (aV.mono (aJ (kle k₂)) aZ) cG) (λ v s' q=>⟨aL (aL k₁ k₂) q.1,q.2⟩) dp)
end
variable {A:Around} {aa:Env} {sc:ly} {ak:List Str} {F aw:List Addr} {az:Shared} {Q:Flow->Shared->Prop} {E:Value->Shared->Prop} {aD:List Stmt} {S:List Addr} {s:Shared} {ρ:eV} {P:YJ} {g h:Heap} {e l r:Expr} {aV a6 R:YJ} {ar:Pos} {x y:Expr} {n:Nat} {gZ:YJ} {YN:List YJ} {s':Shared} {S':List Addr} {h':Heap} {gy:eV} {I:Addr} {fp wr:List Addr} {G:List Tx} {St:Nat->Shared->Prop} {W:YJ} {f dx:Addr} {abF:Obj} {fd:FuncData} {m:Str->Option Value} {name:Str} {v:Value} {o:Expr} {C:Addr} {x':Expr} {ns:List Str} {z:Str} {YA ap lp:Pos} {a b p:Addr} {i:Nat} {gh:Shared} {ys:List Expr} {os:List (Addr×Obj)} {aT:List Env} {ea:Addr} {X:String} {aE:List Value} {M:Model} {prog:Program} {d:Drawn} {t:List Tx} {xs:Array Value} {Yb:Tx->Nat} {ah:List Tx} {aq:List (Tx×Tx)} {np Lh:Tx->Int} {X':Tx->Prop} {QX:Tx->List Tx} {av:List Tx} {ae:List Int} {TI TO i1 i2 l1 l2:Addr} {k:Nat} {loose:List Str} {oW:ExcName->Option Value} {mg mb:Str->Option Value}
variable {abG p1 p2 p3 p4 YL:Prop} {bo cA eE jO:Sort _} {α:Type} {vs:List Value} {ds:List PyData} {γ δ ε:Type} {aak:List YJ} {u:Tok} {P':YJ} {es:List Expr} {j:Option Int} {nm:Str} {bE:Pos} {m' tk:Nat} {ag:Scope} {cl:List (Str×Addr)} {it:Addr} {aN:Expr} {bA:List Expr} {ι:Type} {aj:Shared} {aG:Expr} {be:Pos} {bP:Expr} {D:Addr} {kk:Nat} {tp:Pos} {bM orelse:List Stmt} {kw:List (Str×Value)} {Ok:Expr->Prop} {f9:Nat->eV} {aS:Expr} {items:Array Value} {rs Yo:List Tx} {ep:Nat} {cp:Pos} {kvs:List (Tx×YJ)} {sp:Pos} {ke aaB:Expr} {expr:Bool} {ps:List Tx} {N:List Addr} {XF:Unit->Shared->Prop} {cQ:Tx} {κ:Type} {fl:Value} {seen:List Tx} {pb:Pos} {cC bJ a7:List Tx} {b7:Tx} {aa9:Addr} {Y9:Value->Shared->Prop} {fn:Str} {ms:List Tx}
def br:sizeLine=16777216:=by unfold sizeLine;rfl
def pD {a b:Int}:fm A (binaryOp .Add) (is a) (is b) (is (a+b)):=λ S s u v ξ ξ p q=>by refine aM (bD.mp p) λ t cX=>?_;subst cX;refine aM (bD.mp q) λ t' c7=>?_;subst c7;exact PySem.P.add_int ⟨dG _ _,bD.mpr ⟨_,rfl⟩⟩
def A3 {a b:Int}:fm A (binaryOp .Sub) (is a) (is b) (is (a - b)):=λ S s u v ξ ξ p q=>by refine aM (bD.mp p) λ t d6=>?_;subst d6;refine aM (bD.mp q) λ t' dI=>?_;subst dI;exact PySem.P.sub_int ⟨dG _ _,bD.mpr ⟨_,rfl⟩⟩
def iW {a b:Int} (hb:b≠0):fm A (binaryOp .Mod) (is a) (is b) (is (a.fmod b)):=λ S s u v ξ ξ p q=>by refine aM (bD.mp p) λ t ff=>?_;subst ff;refine aM (bD.mp q) λ t' fR=>?_;subst fR;exact mod_int' hb ⟨dG _ _,bD.mpr ⟨_,rfl⟩⟩
def zD {a b:Int} (hb:b≠0) (hs:b.natAbs<1073741824):fm A (binaryOp .FloorDiv) (is a) (is b) (is (a.fdiv b)):=λ S s u v ξ ξ p q=>by refine aM (bD.mp p) λ t eK=>?_;subst eK;refine aM (bD.mp q) λ t' eL=>?_;subst eL;exact floordiv_int hb ⟨dG _ _,bD.mpr ⟨_,rfl⟩⟩ (.inl (PyProof.noPylong_small hs))
def Dh {a b:Int}:fm A (compareOp .Lt) (is a) (is b) (is (decide (a<b))):=λ S s u v ξ ξ p q=>by refine aM (bD.mp p) λ t gG=>?_;subst gG;refine aM (bD.mp q) λ t' il=>?_;subst il;exact PySem.P.lt_int ⟨cB _,is_bool.mpr rfl⟩
def Di {a b:Int}:fm A (compareOp .Gt) (is a) (is b) (is (decide (a>b))):=λ S s u v ξ ξ p q=>by refine aM (bD.mp p) λ t gi=>?_;subst gi;refine aM (bD.mp q) λ t' gM=>?_;subst gM;exact PySem.P.gt_int ⟨cB _,is_bool.mpr rfl⟩
def vd {a b:Int}:fm A (compareOp .GtE) (is a) (is b) (is (decide (a>=b))):=λ S s u v ξ ξ p q=>by refine aM (bD.mp p) λ t fN=>?_;subst fN;refine aM (bD.mp q) λ t' fO=>?_;subst fO;exact PySem.P.ge_int ⟨cB _,is_bool.mpr rfl⟩
noncomputable instance:Append Tx:=⟨λ a b=>⟨a.cs++b.cs⟩⟩
def Tx.d9 (a b:Tx):(a++b).cs=a.cs++b.cs:=rfl
def Tx.len (a:Tx):a.s.length=a.cs.length:=by show (List.toArray _).size=_;rw [List.size_toArray,lm]
def Tx.jI (a b:Tx):(a++b).s=a.s++b.s:=by show Str.mk _=Str.mk (_++_);congr 1;show (List.map Char.toNat (a.cs++b.cs)).toArray=(a.cs.map Char.toNat).toArray++(b.cs.map Char.toNat).toArray;rw [List.map_append,List.append_toArray]
def Tx.ext {a b:Tx} (h:a.cs=b.cs):a=b:=by cases a;cases b;cases h;rfl
def jx {a b:Tx} (hz:a.cs.length+b.cs.length<=sizeLine):fm A (binaryOp .Add) (is a) (is b) (is (a++b)):=λ S s u v ξ ξ p q=>by
 refine aM (bz.mp p) λ t gN=>?_;subst gN;refine aM (bz.mp q) λ t' gj=>?_;subst gj;refine PySem.P.add_str ?_;split
 ·rename_i h;have h0:a.s.length=0:=by simpa using h
  rw [a.len] at h0;have h1:a.cs=[]:=List.length_eq_zero_iff.mp h0;have:a++b=b:=Tx.ext (by rw [Tx.d9,h1];rfl);exact ⟨cB _,bz.mpr ⟨_,by rw [this]⟩⟩
 ·split
  ·rename_i h;have h0:b.s.length=0:=by simpa using h
   rw [b.len] at h0;have h1:b.cs=[]:=List.length_eq_zero_iff.mp h0;have:a++b=a:=Tx.ext (by rw [Tx.d9,h1,List.append_nil]);exact ⟨cB _,bz.mpr ⟨_,by rw [this]⟩⟩
  ·refine iJ ?_ (dG _ _) (bz.mpr ⟨_,by rw [Tx.jI]⟩);rw [<-Tx.jI,Tx.len,Tx.d9,gD];exact hz
def eZ {o:Obj} (f:∀b∈S,∃o,s.heap.get? b=some o) (ho:o.isFreed=false):(hide S (s.heap.push o)).get? s.heap.objs.size=some o:=by
 rw [bI,if_neg λ hm=>?_]
 ·exact Heap.get?_push_size _ ho
 ·refine aM (f _ hm) λ o ho=>?_;exact absurd (Heap.lt_size ho) (Nat.lt_irrefl _)
def xS (hz:YN.length+aak.length<=sizeLine):fm A (binaryOp .Add) (cH YN) (cH aak) (cH (YN++aak)):=λ S s u v ξ f p q=>by
 refine bw p λ a vs n l6 ha pa=>?_;subst l6;refine bw q λ b ws m kc hb pb=>?_;subst kc;have e1:=pa.length;have e2:=pb.length;rw [Array.length_toList] at e1 e2;refine PySem.P.add_list (ao _ _ ha) (ao _ _ hb) ⟨?_,?_⟩ (by rw [e1,e2];exact hz)
 ·exact d8 _ _ rfl (λ ξ ξ e=>cN _ e)
 ·refine jm _ (vs++ws) 0 rfl (eZ f rfl) ?_;rw [Array.toList_append];exact (pa.mono (aJ λ ξ ξ e=>cN _ e)).append (pb.mono (aJ λ ξ ξ e=>cN _ e))
def kT {f:Value->Value->Sem Value} {HV HW:YJ} (h:fm A f aV a6 P) (h1:∀h v,HV.p h v->aV.p h v) (h2:∀h v,HW.p h v->a6.p h v) (h3:∀h v,P.p h v->P'.p h v):fm A f HV HW P':=
 λ S s u v t fr p q=>Zh (h S s u v t fr (h1 _ _ p) (h2 _ _ q)) (λ ξ ξ x=>⟨x.1,h3 _ _ x.2⟩) dp
def dm [aaK α] {a b:List α} (hz:a.length+b.length<=sizeLine):fm A (binaryOp .Add) (is a) (is b) (is (a++b)):=
 kT (xS (YN:=a.map is) (aak:=b.map is) (by rw [lm,lm];exact hz)) (λ ξ ξ=>is_list.mp) (λ ξ ξ=>is_list.mp) λ ξ ξ h=>is_list.mpr (by rw [List.map_append];exact h)
def zE {d:PyData} (p:(zB d).p (hide S s.heap) v):∃as,Reads s.heap v d as:=(XM.keeps ao p).reads
def iE [aaK α] {a b:α} (abx:cy n A) (hd:aaK.Z' α<=64):fm A (compareOp .Eq) (is a) (is b) (is (decide (a=b))):=λ S s u v ξ ξ p q=>by
 refine aM (zE p) λ as ra=>?_;refine aM (zE q) λ bs rb=>?_;refine SeqAt.compareEq_reads ra rb (aaK.lay a) (aaK.lay b) ?_ ⟨cB _,?_⟩
 ·have:=aaK.iK a;have:=abx.units;w_up
 ·rw [aaK.eqv];exact is_bool.mpr rfl
def iF [aaK α] {a b:α} (abx:cy n A) (hd:aaK.Z' α<=64):fm A (compareOp .NotEq) (is a) (is b) (is (!decide (a=b))):=λ S s u v ξ ξ p q=>by
 refine aM (zE p) λ as ra=>?_;refine aM (zE q) λ bs rb=>?_;refine SeqAt.compareNe_reads ra rb (aaK.lay a) (aaK.lay b) ?_ ⟨cB _,?_⟩
 ·have:=aaK.iK a;have:=abx.units;w_up
 ·rw [aaK.eqv];exact is_bool.mpr rfl
def A4 [aaK α] (a:α) (xs:List α):(xs.map aaK.py).any (λ y=>PyData.eqv y (aaK.py a))=decide (a∈xs):=by
 induction xs with
 |nil=>simp
 |cons x xs ih=>
  rw [List.map_cons,List.any_cons,ih,aaK.eqv];by_cases h:x=a
  ·subst h;simp
  ·have h':¬a=x:=λ e=>h e.symm;by_cases k:a∈xs<;>simp [h,h',k]
def tc [aaK α] {a:α} {xs:List α} (abx:cy n A) (hd:aaK.Z' α<=64):fm A (compareOp .In) (is a) (is xs) (is (decide (a∈xs))):=λ S s u v ξ ξ p q=>by
 refine aM (zE p) λ as ra=>?_;refine aM (zE q) λ bs rb=>?_;refine SeqAt.in_list_reads rb ra (pA xs) (aaK.lay a) ?_ ⟨cB _,?_⟩
 ·have:=aaK.iK a;have:=abx.units;w_up
 ·rw [A4];exact is_bool.mpr rfl
def jJ [aaK α] {a:α} {xs:List α} (abx:cy n A) (hd:aaK.Z' α<=64):fm A (compareOp .NotIn) (is a) (is xs) (is (!decide (a∈xs))):=λ S s u v ξ ξ p q=>by
 refine aM (zE p) λ as ra=>?_;refine aM (zE q) λ bs rb=>?_;refine SeqAt.notIn_list_reads rb ra (pA xs) (aaK.lay a) ?_ ⟨cB _,?_⟩
 ·have:=aaK.iK a;have:=abx.units;w_up
 ·rw [A4];exact is_bool.mpr rfl
def XC (A:Around) (P:YJ) (b:Bool):Prop:=
 ∀S (s:Shared) v,er (hide S s.heap)->P.p (hide S s.heap) v->wpAny (model XX w) A (truthy v) (λ r s'=>Keeps s s'/\r=b) dj s
def gk {b:Bool}:XC A (is b) b:=λ S s v ξ p=>by rw [is_bool.mp p];exact wpAny_truthy_bool ⟨cB _,rfl⟩
def Li {a:Int}:XC A (is a) (a !=0):=λ S s v ξ p=>by refine aM (bD.mp p) λ t rh=>?_;subst rh;exact PySem.P.truthy_int ⟨cB _,rfl⟩
def ri {a:Tx} (hz:a.cs.length<=sizeLine):XC A (is a) (!a.cs.isEmpty):=λ S s v ξ p=>by
 refine aM (bz.mp p) λ t Dj=>?_;subst Dj;have:=br;refine PySem.P.truthy_str (by rw [Tx.len];w_up) ⟨dG _ _,?_⟩;rw [Tx.len];cases a.cs with
 |nil=>rfl
 |cons c r=>simp;w_up
def td (hz:YN.length<=sizeLine):XC A (cH YN) (!YN.isEmpty):=λ S s v ξ p=>by refine bw p λ a vs n Dk ha pa=>?_;subst Dk;have e1:=pa.length;rw [Array.length_toList] at e1;have:=br;refine wpAny_truthy_list ⟨_,ao _ _ ha,rfl,_,rfl⟩ (by rw [e1];w_up) ⟨dG _ _,?_⟩;unfold Array.isEmpty;rw [e1];cases YN<;>simp
def HX [aaK α] {a:List α} (hz:a.length<=sizeLine):XC A (is a) (!a.isEmpty):=λ S s v t p=>by have:=td (A:=A) (YN:=a.map is) (by rw [lm];exact hz) S s v t (is_list.mp p);rwa [show (a.map is).isEmpty=a.isEmpty by cases a<;>rfl] at this
def te (A:Around) (sc:ly) (ρ:eV) (e:Expr) (b:Bool):Prop:=
 ∀S aa s,XK sc ρ S aa s.heap->wpAny (model XX w) A (isTrue e aa (eval e aa)) (λ r s'=>Keeps s s'/\r=b) dj s
def rj (A:Around) (sc:ly) (ρ:eV) (op:BoolOp) (es:List Expr) (b:Bool):Prop:=
 ∀S aa s,XK sc ρ S aa s.heap->wpAny (model XX w) A (allTrue op es aa) (λ r s'=>Keeps s s'/\r=b) dj s
def te.use {b:Bool} {Q:Bool->Shared->Prop} (x:te A sc ρ e b) (c:XK sc ρ S aa s.heap)
  (k:∀s',Keeps s s'->XK sc ρ S aa s'.heap->Q b s'):wpAny (model XX w) A (isTrue e aa (eval e aa)) Q E s:=
 Zh (x S aa s c) (λ v s' q=>by rw [q.2];exact k s' q.1 (c.mono (kle q.1))) eY
def cM {b:Bool} (h:Ev A sc ρ e P) (t:XC A P b) (he:∀aa,isTrue e aa (eval e aa)=(do let v<-eval e aa;standAt e.pos;holding [v] (truthy v))):te A sc ρ e b:=
 λ S aa s c=>wpAny_isTrue_value (h.use c λ v aj k c₁ p=>Zh (t S aj v c₁.top p) (λ r s' q=>⟨aL k q.1,q.2⟩) dp) (he aa)
def bg {op:CmpOp} {b:Bool} (hl:Ev A sc ρ l aV) (hr:Ev A sc ρ r a6) (ho:fm A (compareOp op) aV a6 (is b)) (hm:behindInMarks op r=false):te A sc ρ (.Compare l [op] [r] ar) b:=λ S aa s c=>
 wpAny_isTrue_Compare1 (hm:=hm) (hl.use c λ a aj k₁ c₁ aZ=>hr.use c₁ λ b' aA k₂ c₂ cG=>
  Zh (ho S aA a b' c₂.top c₂.b4 (aV.mono (aJ (kle k₂)) aZ) cG) (λ v s' q=>by rw [is_bool.mp q.2];exact wpAny_truthy_bool ⟨aL (aL k₁ k₂) q.1,rfl⟩) eY)
def l7 {b:Bool} (h:te A sc ρ e b):te A sc ρ (.UnaryOp .Not e ar) (!b):=λ S aa s c=>
 wpAny_isTrue_Not (h.use c λ aj k c₁=>⟨k,rfl⟩)
def g9:rj A sc ρ .And [] true:=λ S aa s c=>wpAny_allTrue_And_nil ⟨cB _,rfl⟩
def jK:rj A sc ρ .Or [] false:=λ S aa s c=>wpAny_allTrue_Or_nil ⟨cB _,rfl⟩
def gm {b c:Bool} (h:te A sc ρ e b) (h':b=true->rj A sc ρ .And es c):rj A sc ρ .And (e::es) (b&&c):=λ S aa s x=>
 wpAny_allTrue_And_cons (h.use x λ aj k c₁=>by
  cases b with
  |false=>exact ⟨k,rfl⟩
  |true=>exact Zh (h' rfl S aa aj c₁) (λ r s' q=>⟨aL k q.1,q.2⟩) dp)
def iL {b c:Bool} (h:te A sc ρ e b) (h':b=false->rj A sc ρ .Or es c):rj A sc ρ .Or (e::es) (b||c):=λ S aa s x=>
 wpAny_allTrue_Or_cons (h.use x λ aj k c₁=>by
  cases b with
  |true=>exact ⟨k,rfl⟩
  |false=>exact Zh (h' rfl S aa aj c₁) (λ r s' q=>⟨aL k q.1,q.2⟩) dp)
def fo {op:BoolOp} {b:Bool} (h:rj A sc ρ op es b):te A sc ρ (.BoolOp op es ar) b:=λ S aa s c=>
 wpAny_isTrue_BoolOp (h S aa s c)
def Dl {b:Bool} (hx:Ev A sc ρ x P) (t:XC A P b) (h1:b=true->∀h v,P.p h v->R.p h v) (h2:b=false->Ev A sc ρ y R):Ev A sc ρ (.BoolOp .Or [x,y] ar) R:=λ S aa s c=>
 wpAny_Or2 (hx.use c λ v aj k c₁ p=>Zh (t S aj v c₁.top p) (λ r aA q=>by
  refine cO q λ k₂ ve=>?_;subst ve;cases r with
  |true=>exact ⟨aL k k₂,h1 rfl _ _ (P.mono (aJ (kle k₂)) p)⟩
  |false=>exact Zh (h2 rfl S aa aA (c₁.mono (kle k₂))) (λ v s' q=>⟨aL (aL k k₂) q.1,q.2⟩) dp) eY)
def tf {b:Bool} (t:te A sc ρ e b) (h1:b=true->Ev A sc ρ x P) (h2:b=false->Ev A sc ρ y P):Ev A sc ρ (.IfExp e x y ar) P:=λ S aa s c=>
 wpAny_IfExp (t.use c λ aj k c₁=>by
  cases b with
  |true=>exact Zh (h1 rfl S aa aj c₁) (λ v s' q=>⟨aL k q.1,q.2⟩) dp
  |false=>exact Zh (h2 rfl S aa aj c₁) (λ v s' q=>⟨aL k q.1,q.2⟩) dp)
def qC {a:Int} (hx:Ev A sc ρ x (is a)):Ev A sc ρ (.UnaryOp .USub x ar) (is (-a)):=λ S aa s c=>
 wpAny_UnaryOp (hx.use c λ v aj k c₁ p=>by refine aM (bD.mp p) λ t N9=>?_;subst N9;exact PySem.P.neg_int ⟨aL k (dG _ _),bD.mpr ⟨_,rfl⟩⟩)
def nE (A:Around) (sc:ly) (ρ:eV) (es:List Expr) (YN:List YJ):Prop:=
 ∀S aa ar s,XK sc ρ S aa s.heap->wpAny (model XX w) A (spliced (backTo ar (starEach es aa))) (λ vs s'=>Keeps s s'/\AllP (hide S s'.heap) YN vs) dj s
def aB:nE A sc ρ [] []:=λ S aa ar s c=>wpAny_items_nil ⟨cB _,trivial⟩
def au (h:Ev A sc ρ e P) (h':nE A sc ρ es YN) (he:∀aa,starEach (e::es) aa=(false,eval e aa)::starEach es aa:=by intro _;rfl):nE A sc ρ (e::es) (P::YN):=λ S aa ar s c=>
 j7 (he:=he aa) (h.use c λ v aj k c₁ p=>Zh (h' S aa ar aj c₁) (λ vs aA q=>iJ (aL k q.1) (P.mono (aJ (kle q.1)) p) q.2) dp)
def yC (h:nE A sc ρ es YN) (hz:YN.length<=sizeLine):Ev A sc ρ (.List es ar) (cH YN):=λ S aa s c=>
 wpAny_List (Zh (h S aa ar s c) (λ vs aj q=>⟨by rw [q.2.length];exact hz,aL q.1 ⟨_,_,rfl,λ ξ ξ e=>cN _ e⟩,_,_,_,rfl,eZ (c.mono (kle q.1)).b4 rfl,
  q.2.mono (aJ λ ξ ξ e=>cN _ e)⟩) dp)
def nF (h:nE A sc ρ es YN) (hz:YN.length<=sizeLine):Ev A sc ρ (.Tuple es k ar) (f5 YN):=λ S aa s c=>
 wpAny_Tuple (Zh (h S aa ar s c) (λ vs aj q=>⟨by rw [q.2.length];exact hz,aL q.1 ⟨_,_,rfl,λ ξ ξ e=>cN _ e⟩,_,_,_,rfl,eZ (c.mono (kle q.1)).b4 rfl,
  q.2.mono (aJ λ ξ ξ e=>cN _ e)⟩) dp)
def cf [aaK α] {xs:List α} (h:nE A sc ρ es (xs.map is)) (hz:xs.length<=sizeLine):Ev A sc ρ (.List es ar) (is xs):=
 (yC h (by rw [lm];exact hz)).imp λ ξ ξ=>is_list.mpr
def r4 {β:Type} [aaK α] [aaK β] {a:α} {b:β} (h:nE A sc ρ es [is a,is b]):Ev A sc ρ (.Tuple es k ar) (is (a,b)):=
 (nF h (by rw [br];simp)).imp λ ξ ξ=>(kS (t:=(a,b))).mpr
def HY {β:Type} [aaK α] [aaK β] [aaK γ] {a:α} {b:β} {c:γ} (h:nE A sc ρ es [is a,is b,is c]):Ev A sc ρ (.Tuple es k ar) (is (X7.mk a b c)):=
 (nF h (by rw [br];simp)).imp λ ξ ξ=>(Dg (t:=X7.mk a b c)).mpr
def HZ {β:Type} [aaK α] [aaK β] [aaK γ] [aaK δ] [aaK ε] {a:α} {b:β} {c:γ} {d:δ} {f:ε} (h:nE A sc ρ es [is a,is b,is c,is d,is f]):Ev A sc ρ (.Tuple es k ar) (is (Y7.mk a b c d f)):=
 (nF h (by rw [br];simp)).imp λ ξ ξ=>(s9 (t:=Y7.mk a b c d f)).mpr
def l8 (P:YJ) (T:String):Prop:=∀(s:Shared) v,P.p s.heap v->s.TypeIs v T
def Ff {T:String} (h:l8 P T) (p:P.p (hide S s.heap) v):s.TypeIs v T:=h s v (P.mono ao p)
def yD:l8 (cH YN) "list":=λ s v p=>by refine bw p λ a vs n cX ha ξ=>?_;subst cX;exact cV _ ha rfl
def vf:l8 (f5 YN) "tuple":=λ s v p=>by refine bw p λ a vs n c7 ha ξ=>?_;subst c7;exact cV _ ha rfl
def ty_list [aaK α] {xs:List α}:l8 (is xs) "list":=λ s v p=>yD s v (is_list.mp p)
def rk {x:Tx}:l8 (is x) "str":=λ s v p=>by refine aM (bz.mp p) λ t d6=>?_;subst d6;exact typeIs_str s _ _
def Lj (slice:Expr) (o i:Value):∃vs,subscripted slice false o i=operate vs (getItem o i):=by
 cases slice with
 |Slice a b c=>cases c<;>exact ⟨_,rfl⟩
 |_=>exact ⟨_,rfl⟩
def H3 {value slice:Expr} {Q:Value->Shared->Prop}
  (h:wpAny (model XX w) A (eval value aa) (λ o aj=>wpAny (model XX w) A (eval slice aa) (λ i aA=>∃T id,typeLookup (.type T) "__getitem__"=pure (some (.builtin id))/\aA.TypeIs o T/\wpAny (model XX w) A (getItem o i) Q E aA) E aj) E s):
  wpAny (model XX w) A (eval (.Subscript value slice ar) aa) Q E s:=by
 rw [eval_Subscript];refine Z4 (Zh h (λ o aj dg=>Z4 (XG (Zh dg (λ i aA dJ=>Z4 (ig ?_)) dp))) dp);refine bU dJ λ T id hl hT dJ=>?_;have fin:∀vs,wpAny (model XX w) A (operate vs (getItem o i)) (λ r aH=>wpAny (model XX w) A (letTemporaryGo value o r>>=λ ξ=>pure r) Q E aH) E aA:=λ vs=>
  wpAny_operating (Zh dJ (λ r aH QY=>Z4 (wpAny_letTemporaryGo (X5 QY))) dp)
 refine Z4 ?_;rw [getitemInPython_of_ne hT.not_modules];refine Z4 (wpAny_specialOf hT hl (X5 (Z4 ?_)));refine aM (Lj slice o i) λ vs e=>?_;rw [e];exact fin vs
def cP {T id:String} (hv:Ev A sc ρ x aV) (hs:Ev A sc ρ y a6) (ho:fm A getItem aV a6 P) (ht:l8 aV T) (hl:typeLookup (.type T) "__getitem__"=pure (some (.builtin id))):
  Ev A sc ρ (.Subscript x y ar) P:=λ S aa s c=>
 H3 (hv.use c λ o aj k₁ c₁ aZ=>hs.use c₁ λ i aA k₂ c₂ cG=>⟨T,id,hl,Ff ht (aV.mono (aJ (kle k₂)) aZ),
  Zh (ho S aA o i c₂.top c₂.b4 (aV.mono (aJ (kle k₂)) aZ) cG) (λ v s' q=>⟨aL (aL k₁ k₂) q.1,q.2⟩) dp⟩)
def vg {i:Int} (h0:0<=i) (hi:i<2^63) (hp:YN[i.toNat]? =some P):fm A getItem (cH YN) (is i) P:=λ S s u v ξ ξ p q=>by refine bw p λ a vs n ff ha pa=>?_;subst ff;refine aM (bD.mp q) λ t fR=>?_;subst fR;refine aK (pa.get hp) λ v hv pv=>?_;exact wpAny_getItem_list ⟨_,ao _ _ ha,rfl,_,rfl⟩ h0 hi (by simpa using hv) ⟨cB _,pv⟩
def dD [aaK α] {xs:List α} {i:Int} {a:α} (h0:0<=i) (hi:i<2^63) (hp:xs[i.toNat]? =some a):fm A getItem (is xs) (is i) (is a):=
 kT (vg (YN:=xs.map is) h0 hi (by rw [List.getElem?_map,hp];rfl)) (λ ξ ξ=>is_list.mp) (λ ξ ξ h=>h) λ ξ ξ h=>h
def xT [aaK α] {xs:List α} {a:α} (hp:xs.getLast?=some a):fm A getItem (is xs) (is (-1:Int)) (is a):=λ S s u v ξ ξ p q=>by
 refine bw (is_list.mp p) λ b vs n eL ha pa=>?_;subst eL;refine aM (bD.mp q) λ t gG=>?_;subst gG;have e1:=pa.length;rw [Array.length_toList,lm] at e1;have fg:xs≠[]:=by rintro rfl;cases hp
 have Nq:0<xs.length:=List.length_pos_iff.mpr fg;have uy:(xs.map is)[xs.length - 1]? =some (is a):=by rw [List.getElem?_map,<-List.getLast?_eq_getElem?,hp];rfl
 refine aK (pa.get uy) λ v hv pv=>?_;refine wpAny_getItem_list_neg ⟨_,ao _ _ ha,rfl,_,rfl⟩ (by w_up) (by w_up) (by w_up) (x:=v) ?_ ⟨cB _,pv⟩;have:(-1+(vs.size:Int)).toNat=xs.length - 1:=by
  rw [e1];cases xs with
  |nil=>rfl
  |cons _ l=>exact (congrArg Int.toNat (Int.add_comm _ _)).trans ((congrArg Int.toNat (Int.add_neg_cancel_right (l.length:Int) 1)).trans (Int.toNat_natCast _))
 rw [this];simpa using hv
def kF {i:Int} (h0:0<=i) (hi:i<2^63) (hp:YN[i.toNat]? =some P):fm A getItem (f5 YN) (is i) P:=λ S s u v ξ ξ p q=>by refine bw p λ a vs n gi ha pa=>?_;subst gi;refine aM (bD.mp q) λ t gM=>?_;subst gM;refine aK (pa.get hp) λ v hv pv=>?_;have c4:i.toNat<YN.length:=(List.getElem?_eq_some_iff.mp hp).1;have e1:=pa.length;rw [Array.length_toList] at e1;refine _root_.PySem.P.getItem_tuple (ao _ _ ha) (by w_up) hi (k:=i.toNat) ?_ (by simpa using hv) ⟨cB _,pv⟩;exact seqIndex_of h0 (by w_up)
noncomputable def ef (l u st:Option Int):YJ:=
 ⟨λ h v=>∃(a:Addr) (l':Option (Int×Tok)) (u':Option (Int×Tok)) (ip:Option (Int×Tok)),v= .ref a/\l'.map (·.1)=l/\u'.map (·.1)=u/\ip.map (·.1)=st/\h.IsSlice a l' u' ip,λ k x=>kR x λ a l' u' ip e e1 e2 e3 h=>⟨a,l',u',ip,e,e1,e2,e3,aK h λ o h1 h2=>cV o (k _ _ h1) h2⟩⟩
noncomputable def Oa (l:Option Int):YJ:=⟨λ h v=>∃l':Option (Int×Tok),l'.map (·.1)=l/\v=partValue l',λ ξ x=>x⟩
def H4 (A:Around) (sc:ly) (ρ:eV) (e:Option Expr) (l:Option Int):Prop:=
 ∀S aa s,XK sc ρ S aa s.heap->wpAny (model XX w) A (evalPart e aa) (End S (Oa l) s) dj s
def cR:H4 A sc ρ none none:=λ S aa s c=>wpAny_evalPart_none ⟨cB _,none,rfl,rfl⟩
def eN {i:Int} (h:Ev A sc ρ e (is i)):H4 A sc ρ (some e) (some i):=λ S aa s c=>by
 rw [evalPart_some];exact h.use c λ v s' k c' p=>by refine aM (bD.mp p) λ t fO=>?_;subst fO;exact ⟨k,some (i,t),rfl,rfl⟩
def fq {a b c:Option Expr} {i k:Option Int} (h1:H4 A sc ρ a i) (h2:H4 A sc ρ b j) (h3:H4 A sc ρ c k):Ev A sc ρ (.Slice a b c ar) (ef i j k):=λ S aa s x=>
 wpAny_Slice (Zh (h1 S aa s x) (λ u aj A5=>Zh (h2 S aa aj (x.mono (kle A5.1))) (λ v aA Fg=>Zh (h3 S aa aA ((x.mono (kle A5.1)).mono (kle Fg.1))) (λ z aH tZ=>by refine s6 A5 λ k₁ l' e1 gN=>?_;subst gN;refine s6 Fg λ k₂ u' e2 gj=>?_;subst gj;refine s6 tZ λ iq ip e3 jy=>?_;subst jy;refine ⟨aL (aL k₁ k₂) (aL iq ⟨_,_,rfl,λ ξ ξ e=>cN _ e⟩),_,l',u',ip,rfl,e1,e2,e3,_,eZ (x.mono (kle (aL (aL k₁ k₂) iq))).b4 rfl,rfl,rfl⟩) dp) dp) dp)
def h7 {l:Option (Int×Tok)}:IsPart (partValue l) (l.map (·.1)):=by
 cases l with
 |none=>exact .none
 |some p=>obtain ⟨i,t⟩:=p;exact .int _ _
def lz {i k:Option Int} (h0:k≠some 0) (hz:YN.length<=sizeLine) (hp:∀h (vs:Array Value),AllP h YN vs.toList->AllP h aak (slicePick vs i j k).toList):fm A getItem (cH YN) (ef i j k) (cH aak):=λ S s u v ξ f p q=>by refine bw p λ a vs n kc ha pa=>?_;subst kc;refine kR q λ b l' u' ip rl Dm Dn Ob hs=>?_;subst rl;subst Dm;subst Dn;subst Ob;have e1:=pa.length;rw [Array.length_toList] at e1;refine cZ hs λ o ho hc hd=>?_;refine wpAny_getItem_list_slice ⟨_,ao _ _ ha,rfl,_,rfl⟩ ⟨o,ao _ _ ho,hc,hd⟩ h7 h7 h7 h0 ?_ (by rw [e1];exact hz);refine ⟨⟨_,_,rfl,λ ξ ξ e=>cN _ e⟩,_,_,0,rfl,eZ f rfl,?_⟩;exact (hp _ _ pa).mono (aJ λ ξ ξ e=>cN _ e)
def pE [aaK α] {xs:List α} {b:Nat} (hz:xs.length<=sizeLine):fm A getItem (is xs) (ef none (some (b:Int)) none) (is (xs.take b)):=
 kT (lz (YN:=xs.map is) (aak:=(xs.take b).map is) (by simp) (by rw [lm];exact hz) λ h vs p=>by rw [slicePick_upto',List.map_take];exact p.take b) (λ ξ ξ=>is_list.mp) (λ ξ ξ h=>h) λ ξ ξ=>is_list.mpr
def H5 [aaK α] {xs:List α} {b:Nat} (hz:xs.length<=sizeLine):fm A getItem (is xs) (ef (some (b:Int)) none none) (is (xs.drop b)):=
 kT (lz (YN:=xs.map is) (aak:=(xs.drop b).map is) (by simp) (by rw [lm];exact hz) λ h vs p=>by rw [slicePick_from',List.map_drop];exact p.drop b) (λ ξ ξ=>is_list.mp) (λ ξ ξ h=>h) λ ξ ξ=>is_list.mpr
def A6 [aaK α] {xs:List α} (hz:xs.length<=sizeLine):fm A getItem (is xs) (ef none (some (-1)) none) (is xs.dropLast):=
 kT (lz (YN:=xs.map is) (aak:=xs.dropLast.map is) (by simp) (by rw [lm];exact hz) λ h vs p=>by have e1:=p.length;rw [Array.length_toList,lm] at e1;have:=slicePick_butLast vs 1 (Nat.le_refl _);rw [show (-((1:Nat):Int))=-1 from rfl] at this;rw [this,List.dropLast_eq_take,List.map_take,e1];exact p.take _) (λ ξ ξ=>is_list.mp) (λ ξ ξ h=>h) λ ξ ξ=>is_list.mpr
def fJ (A:Around) (f:Value) (YN:List YJ) (P:YJ):Prop:=
 ∀S (s:Shared) vs,er (hide S s.heap)->(∀b∈S,∃o,s.heap.get? b=some o)->AllP (hide S s.heap) YN vs->wpAny (model XX w) A (call f vs []) (End S P s) dj s
def Nr (h:Heap):Value->Prop
 | .builtin _| .type _=>True
 | .ref a=>∃o fd,h.get? a=some o/\o.data= .func fd
 |_=>False
def kg {f:Value} {aE:List (Bool×Sem Value)} {Q:Args->Shared->Prop} (hp:aE.any (·.1)=false)
  (h:wpAny (model XX w) A (spliced aE) (λ vs s'=>Q ⟨vs,[]⟩ s') E s):wpAny (model XX w) A (evalArgs f true aE []) Q E s:=by
 have a8:wpAny (model XX w) A (do
   let ar<-spliced aE
   holding (ar++(none:Option Value).toList) do
    let kw:=(([]:List (Option Str×Sem Value)).filterMap (·.1)).zip (<-evalAll (([]:List (Option Str×Sem Value)).map (·.2)))
    return ⟨ar,kw⟩) Q E s:=
  Z4 (Zh h (λ vs s' h'=>XG (Z4 (X5 (X5 h')))) dp)
 cases aE with
 |nil=>exact a8
 |cons a r=>
  obtain ⟨b,t⟩:=a;cases b with
  |true=>simp at hp
  |false=>exact Calls.evalArgs_plain h
def eg {f:Value} {first:List Value} {aE:List (Bool×Sem Value)} {Q:Value->Shared->Prop} (hp:aE.any (·.1)=false)
  (h:wpAny (model XX w) A (spliced aE) (λ vs aj=>Nr aj.heap f/\wpAny (model XX w) A (call f (first++vs) []) Q E aj) E s):wpAny (model XX w) A (callWith ar f first aE []) Q E s:=by
 unfold callWith;refine Z4 (XG (kg hp (Zh h (λ vs aj dg=>Z4 (ig ?_)) dp)));refine cO dg λ hc dg=>?_;have cJ:∀{t:Sem Value},wpAny (model XX w) A t Q E aj->wpAny (model XX w) A (t>>=λ r=>holding [r] point>>=λ ξ=>pure r) Q E aj:=
  λ ht=>Z4 (Zh ht (λ r aA hr=>Z4 (XG (wpAny_point (X5 hr)))) dp)
 rw [hp];cases f with
 |builtin id=>exact Z4 (X5 (cJ dg))
 |type T=>exact Z4 (X5 (cJ dg))
 |ref a=>
  refine bu hc λ o fd ho hd=>?_;refine Z4 (m:=keeperOf (.ref a)) ?_;unfold keeperOf;refine Z4 (wpAny_load ho ?_);rw [hd];refine X5 ?_;refine wpAny_ite ?_;by_cases hl:aE.length+2*([]:List (Option Str×Sem Value)).length>30
  ·rw [if_pos hl];exact cJ dg
  ·rw [if_neg hl];exact cJ (by unfold callMarked;exact Calls.wpAny_keep dg)
 |_=>exact hc.elim
def eT (aE:List Expr):Prop:=∀aa ar,(backTo ar (starEach aE aa)).any (·.1)=false
def vh (f:Value):Prop:=match f with
 | .builtin _| .type _=>True
 | .ref a=>∃o fd,(KK w.params).lookup a=some o/\o.data= .func fd
 |_=>False
def vh.ok {f:Value} (k:vh f) (T:er h):Nr h f:=by
 cases f with
 |builtin|type=>trivial
 |ref a=>refine bu k λ o fd h1 h2=>?_;exact d8 o fd (T.k _ _ h1) h2
 |_=>exact k
def ba {f:Value} {np:Pos} {aE:List Expr} (hf:Ev A sc ρ (.Name nm np) (lit f)) (ha:nE A sc ρ aE YN) (hp:eT aE) (hk:vh f) (ho:fJ A f YN P):
  Ev A sc ρ (.Call (.Name nm np) aE [] ar) P:=λ S aa s c=>by
 show wpAny _ A (do callWith ar (<-eval (.Name nm np) aa) [] (backTo ar (starEach aE aa)) []) _ _ s;refine Z4 (hf.use c λ v aj k₁ c₁ aZ=>?_);rw [show v=f from aZ];refine eg (hp aa ar) (Zh (ha S aa ar aj c₁) (λ vs aA q=>⟨hk.ok ((c₁.mono (kle q.1)).top.mono ao),?_⟩) eY);exact Zh (ho S aA vs (c₁.mono (kle q.1)).top (c₁.mono (kle q.1)).b4 q.2) (λ v s' z=>⟨aL (aL k₁ q.1) z.1,z.2⟩) dp
def GM (A:Around) (P:YJ) (name:Str) (f:Value):Prop:=
 ∀(s:Shared) v (pl:Sem Bool) (Q:Value×List Value->Shared->Prop) (E:Value->Shared->Prop),P.p s.heap v->er s.heap->Q (f,[v]) s->wpAny (model XX w) A (getMethod v name pl) Q E s
def g4 {f:Value} {aE:List Expr} (hv:Ev A sc ρ o gZ) (hm:GM A gZ name f) (ha:nE A sc ρ aE YN) (hp:eT aE) (hk:vh f) (ho:fJ A f (gZ::YN) P)
  (he:∀aa,∃pl:Sem Bool,eval (.Call (.Attribute o name bE) aE [] ar) aa=(do
   let ov<-eval o aa
   standAt bE.atName
   let (f,first)<-holding [ov] (getMethod ov name pl)
   callWith ar f first (backTo ar (starEach aE aa)) [])):Ev A sc ρ (.Call (.Attribute o name bE) aE [] ar) P:=λ S aa s c=>by
 refine aM (he aa) λ pl e=>?_;rw [e];refine Z4 (hv.use c λ v aj k₁ c₁ aZ=>Z4 (ig (Z4 (XG (hm aj v pl _ _ (gZ.mono ao aZ) (c₁.top.mono ao) ?_)))));refine eg (hp aa ar) (Zh (ha S aa ar aj c₁) (λ vs aA q=>⟨hk.ok ((c₁.mono (kle q.1)).top.mono ao),?_⟩) eY);exact Zh (ho S aA (v::vs) (c₁.mono (kle q.1)).top (c₁.mono (kle q.1)).b4 ⟨gZ.mono (aJ (kle q.1)) aZ,q.2⟩) (λ v s' z=>⟨aL (aL k₁ q.1) z.1,z.2⟩) dp
def fJ.conv {f:Value} (h:fJ A f YN P) (h1:∀h vs,AllP h aak vs->AllP h YN vs) (h2:∀h v,P.p h v->P'.p h v):fJ A f aak P':=
 λ S s vs t fr p=>Zh (h S s vs t fr (h1 _ _ p)) (λ ξ ξ x=>⟨x.1,h2 _ _ x.2⟩) dp
def vj {m':Str->Option Value} (x:h.Ns a m) (y:h.Ns a m'):m=m':=by refine lZ x λ o es ep e1 e2 ξ e3=>?_;refine lZ y λ o' Xa QZ f1 f2 ξ abJ=>?_;rw [e1] at f1;cases f1;rw [e2] at f2;cases f2;funext n;rw [<-e3,<-abJ]
structure iV (ak:List Str) (S:List Addr) (aa:Env) (h:Heap):Prop where
 loc:aa.locals∈S
 ns:∃m,h.Ns aa.locals m
 gb:∀n∈ak,aa.kindOf n=some .cell->∃c v,aa.cells.lookup n=some c/\c∈S/\h.IsCell c v/\c≠aa.locals
 inj:∀n∈ak,aa.kindOf n=some .cell->∀n' c,aa.cells.lookup n=some c->aa.cells.lookup n'=some c->n=n'
def iV.keep (x:iV ak S aa h) (h1:∀o,h.get? aa.locals=some o->h'.get? aa.locals=some o)
  (h2:∀n∈ak,∀c,aa.cells.lookup n=some c->∀o,h.get? c=some o->h'.get? c=some o):iV ak S aa h':=
 ⟨x.loc,aM x.ns λ m z=>cY z λ o es ep e r=>⟨m,o,es,ep,h1 _ e,r⟩,λ n hn k=>jR (x.gb n hn k) λ c v a b z d=>aK z λ o e r=>⟨c,v,a,b,⟨o,h2 n hn c a _ e,r⟩,d⟩,x.inj⟩
structure abO (S:List Addr) (s s':Shared):Prop where
 same:∃h tk,s'={s with heap:=h,toks:=tk}
 keep:∀b o,b∉S->s.heap.get? b=some o->s'.heap.get? b=some o
 live:∀b o,s.heap.get? b=some o->∃o',s'.heap.get? b=some o'
def abO.refl (S:List Addr) (s:Shared):abO S s s:=⟨⟨_,_,rfl⟩,λ ξ ξ ξ e=>e,λ ξ o e=>⟨o,e⟩⟩
def abO.trans {a b c:Shared} (x:abO S a b) (y:abO S b c):abO S a c:=by refine cS x.same λ h t d6=>?_;subst d6;refine cS y.same λ h' t' dI=>?_;subst dI;exact ⟨⟨h',t',rfl⟩,λ b o n e=>y.keep b o n (x.keep b o n e),λ b o e=>let ⟨o',e'⟩:=x.live b o e;y.live b o' e'⟩
def abO.of (k:Keeps s s'):abO S s s':=by refine bu k λ h t ff e=>?_;subst ff;exact ⟨⟨_,_,rfl⟩,λ b o ξ x=>e b o x,λ b o x=>⟨o,e b o x⟩⟩
def abO.le (x:abO S s s'):XN (hide S s.heap) (hide S s'.heap):=b5 λ b o n e=>x.keep b o n e
def abO.more (x:abO S s s') (h:∀b∈S,b∈S'):abO S' s s':=⟨x.same,λ b o n e=>x.keep b o (λ m=>n (h b m)) e,x.live⟩
def abO.set (x:Heap.SameBut a s.heap h') (hl:∀o,s.heap.get? a=some o->∃o',h'.get? a=some o'):abO [a] s {s with heap:=h',toks:=tk}:=
 ⟨⟨_,_,rfl⟩,λ b o n e=>(x.2 b (by simpa using n)).trans e,λ b o e=>by
  by_cases hb:b=a
  ·subst hb;exact hl o e
  ·exact ⟨o,(x.2 b hb).trans e⟩⟩
def XK.aaH (c:XK sc ρ S aa s.heap) (k:abO S s s') (hv:∀n P,ρ.lookup n=some P->et S aa s.heap n P->et S aa s'.heap n P):XK sc ρ S aa s'.heap:=
 ⟨c.names,c.kind,c.glob,c.bi,λ n P e=>hv n P e (c.vars n P e),λ b hb=>let ⟨o,e⟩:=c.b4 b hb;k.live b o e,c.top.mono k.le⟩
noncomputable def cw (ak:List Str) (sc:ly) (x:Str):Bool:=sc.lookup x==some .local||(sc.lookup x==some .cell&&ak.contains x)
def gO {x:Str} {Q:Unit->Shared->Prop} (c:XK sc ρ S aa s.heap) (o:iV ak S aa s.heap) (hx:cw ak sc x=true) (p:P.p (hide S s.heap) v)
  (h:∀s',abO S s s'->XK sc ((x,P)::ρ) S aa s'.heap->iV ak S aa s'.heap->(∀b o,b≠aa.locals->(∀n∈ak,aa.cells.lookup n≠some b)->s.heap.get? b=some o->s'.heap.get? b=some o)->Q () s'):
  wpAny (model XX w) A (storeName aa x v) Q E s:=by
 have kx:=c.kindOf x;unfold cw at hx;rcases Bool.or_eq_true_iff.mp hx with hl|hc
 ·have eF:aa.kindOf x=some .local:=by rw [kx];simpa using hl
  refine aM o.ns λ m hm=>?_;refine wpAny_storeName_local eF hm (λ h' hn hs=>?_) (by rw [c.kind];rfl);have aaH:abO S s {s with heap:=h',toks:=s.toks+1}:=(abO.set hs λ ξ ξ=>by refine cY hn λ o' ξ ξ ho ξ=>?_;exact ⟨o',ho⟩).more λ b hb=>by rw [bj hb];exact o.loc
  have H6:iV ak S aa h':=⟨o.loc,⟨_,hn⟩,λ n jz hk=>by refine jR (o.gb n jz hk) λ cc YD h1 h2 h3 h4=>?_;exact jl cc YD h1 h2 (h3.sameBut hs h4) h4,o.inj⟩
  refine h _ aaH ⟨c.names,c.kind,c.glob,c.bi,λ n P' e=>?_,λ b hb=>let ⟨o,e⟩:=c.b4 b hb;aaH.live b o e,c.top.mono aaH.le⟩ H6 λ b o' hb ξ e=>(hs.2 b hb).trans e;rw [List.lookup_cons] at e;by_cases n7:n=x
  ·subst n7;simp only [beq_self_eq_true] at e;cases e;unfold et;rw [eF];exact bW _ v hn (by simp) (P.mono aaH.le p)
  ·have hb:(n==x)=false:=beq_eq_false_iff_ne.mpr n7;rw [hb] at e;have y:=c.vars n P' e;refine y.map (λ m₁ kU a1 a2 a3=>?_) λ ξ c₁ kU a1 a2 a3=>?_
   ·have:=vj a1 hm;subst this;exact bW _ kU hn (by simp [n7,a2]) (P'.mono aaH.le a3)
   ·refine bW c₁ kU a1 (a2.sameBut hs ?_) (P'.mono aaH.le a3);rintro rfl;refine aK a2 λ o' ho hd=>?_;refine bw hm λ Xb es ep pF lS ξ=>?_;rw [ho] at pF;cases pF;rw [hd] at lS;cases lS
 ·refine cO (Bool.and_eq_true_iff.mp hc) λ hc Q0=>?_;have n8:aa.kindOf x=some .cell:=by rw [kx];simpa using hc
  have Dp:x∈ak:=by simpa using Q0
  refine jR (o.gb x Dp n8) λ cc WW h1 h2 h3 h4=>?_;refine wpAny_storeName_cell c.kind n8 h1 h3 λ h' n9 hs=>?_;have aaH:abO S s {s with heap:=h',toks:=s.toks}:=(abO.set hs λ ξ ξ=>by refine aK n9 λ o' ho ξ=>?_;exact ⟨o',ho⟩).more λ b hb=>by rw [bj hb];exact h2
  have H6:iV ak S aa h':=⟨o.loc,let ⟨m,hm⟩:=o.ns;⟨m,hm.sameBut hs (Ne.symm h4)⟩,λ n jz hk=>by
   refine jR (o.gb n jz hk) λ c₁ kU a1 a2 a3 a4=>?_;by_cases e:c₁=cc
   ·subst e;exact jl c₁ _ a1 a2 n9 a4
   ·exact jl c₁ kU a1 a2 (a3.sameBut hs e) a4,o.inj⟩
  refine h _ aaH ⟨c.names,c.kind,c.glob,c.bi,λ n P' e=>?_,λ b hb=>let ⟨o,e⟩:=c.b4 b hb;aaH.live b o e,c.top.mono aaH.le⟩ H6 λ b o' ξ hb e=>(hs.2 b λ q=>hb x Dp (q▸h1)).trans e;rw [List.lookup_cons] at e;by_cases n7:n=x
  ·subst n7;simp only [beq_self_eq_true] at e;cases e;unfold et;rw [n8];exact bW cc v h1 n9 (P.mono aaH.le p)
  ·have hb:(n==x)=false:=beq_eq_false_iff_ne.mpr n7;rw [hb] at e;have y:=c.vars n P' e;exact y.map (λ m₁ kU a1 a2 a3=>bW m₁ kU (a1.sameBut hs λ q=>h4 q.symm) a2 (P'.mono aaH.le a3)) λ ξ c₁ kU a1 a2 a3=>bW c₁ kU a1 (a2.sameBut hs λ q=>n7 (o.inj x Dp n8 n cc h1 (q▸a1)).symm) (P'.mono aaH.le a3)
noncomputable def iC (ag:Scope) (cells:List (Str×Addr)) (C:Addr) (aa:Env):Env:=
 {scope:=ag,locals:=C,globals:=aa.globals,cells:=cells,qual:=aa.qual,func:=none,code:=aa.code,frame:=aa.frame,builtins:=aa.builtins}
def A7 {Q:Env->Shared->Prop}
  (h:Q (iC ag (cellsFrom (s.heap.objs.size+1) ag.names cl) s.heap.objs.size aa) {s with heap:=pushCells (s.heap.push {cls:=.type "dict",data:=.dict #[]}) ag.names}):
  wpAny (model XX w) A (newFunctionEnv ag aa.globals cl [] aa.qual none .none (some aa)) Q E s:=by
 simp only [newFunctionEnv,Option.isSome_some,if_true];refine Z4 (wpAny_alloc ?_);refine Z4 (wpAny_layCells _ (λ name kind cells=>by cases Xc:kind==NameKind.cell<;>simp) _ _ _ _ ?_);rw [show ({s with heap:=s.heap.push {cls:=.type "dict",data:=.dict #[]}}:Shared).heap.objs.size=s.heap.objs.size+1 from Heap.size_push ..];refine Z4 ?_;rw [List.forIn_nil];exact X5 (X5 h)
noncomputable def freeOf (ag:Scope):List Str:=(ag.names.filter λ x=>x.2== .free).map (·.1)
noncomputable def ownOf (ag:Scope):List Str:=(ag.names.filter λ x=>x.2== .cell).map (·.1)
def e7 (ag:Scope) (ρ:eV):eV:=ρ.filter λ b=>(freeOf ag).contains b.1
def r5 {k:Str} {v:α} {l:List (Str×α)}:List.lookup k ((k,v)::l)=some v:=by rw [List.lookup_cons,beq_self_eq_true]
def vm {n k:Str} {v:α} {l:List (Str×α)} (h:n≠k):List.lookup n ((k,v)::l)=List.lookup n l:=by rw [List.lookup_cons,beq_eq_false_iff_ne.mpr h]
def vn (p:Str->Bool):∀(l:List (Str×α)) (n:Str),(l.filter λ b=>p b.1).lookup n=if p n then l.lookup n else none:=by
 intro l;induction l with
 |nil=>intro n;exact (ite_self _).symm
 |cons aa8 r ih=>
  intro n;obtain ⟨k,v⟩:=aa8;rw [List.filter_cons];by_cases hk:p k=true
  ·rw [if_pos hk];by_cases e:n=k
   ·subst e;rw [if_pos hk,r5,r5]
   ·rw [vm e,vm e,ih n]
  ·rw [if_neg hk,ih n];by_cases e:n=k
   ·subst e;rw [if_neg hk,if_neg hk]
   ·rw [vm e]
def A8:∀(names:List (Str×NameKind)) (aO:List (Str×Addr)),(∀x∈names,x.2= .free->∃c,aa.cells.lookup x.1=some c)->
  ∃cl:List (Str×Addr),(forIn names aO λ (x:Str×NameKind) cs=>if x.2== .free then do let c<-cellOf aa x.1;pure (ForInStep.yield ((x.1,c)::cs)) else pure (ForInStep.yield cs):Sem _)=pure cl/\
   ∀n,cl.lookup n=(if (names.any λ x=>x.1==n&&x.2== .free) then aa.cells.lookup n else aO.lookup n):=by
 intro names;induction names with
 |nil=>intro aO _;exact cV aO rfl (λ ξ=>rfl)
 |cons aa8 r ih=>
  intro aO hf;obtain ⟨k,kd⟩:=aa8;by_cases hk:kd= .free
  ·subst hk;refine aM (hf (k,.free) di rfl) λ c hc=>?_;refine aK (ih ((k,c)::aO) λ x hx=>hf x (Ym _ hx)) λ cl e1 e2=>?_;refine cV cl ?_ (λ n=>?_)
   ·rw [List.forIn_cons,if_pos abl,show cellOf aa k=pure c by unfold cellOf;rw [show aa.cells.lookup k=some c from hc],pure_bind,pure_bind];exact e1
   ·rw [e2 n,List.any_cons];generalize (r.any λ x=>x.1==n&&x.2==NameKind.free)=q;cases q with
    |true=>rw [Bool.or_true,if_pos rfl,if_pos rfl]
    |false=>
     rw [Bool.or_false,List.lookup_cons];by_cases e:k=n
     ·subst e;rw [beq_self_eq_true,beq_self_eq_true,hc];rfl
     ·have e1:(k==n)=false:=beq_eq_false_iff_ne.mpr e;have e2:(n==k)=false:=beq_eq_false_iff_ne.mpr (Ne.symm e);rw [e1,e2];rfl
  ·refine aK (ih aO λ x hx=>hf x (Ym _ hx)) λ cl e1 e2=>?_;have hb:(kd==NameKind.free)=false:=by simpa using hk
   refine cV cl ?_ (λ n=>?_)
   ·rw [List.forIn_cons,if_neg (show ¬(kd==NameKind.free)=true by rw [hb];decide),pure_bind];exact e1
   ·rw [e2 n,List.any_cons];simp [hb]
def l9 (hf:∀x∈ag.names,x.2= .free->∃c,aa.cells.lookup x.1=some c):
  ∃cl,closureFor ag aa=pure cl/\∀n,cl.lookup n=(if (ag.names.any λ x=>x.1==n&&x.2== .free) then aa.cells.lookup n else none):=by
 refine aK (A8 (aa:=aa) ag.names [] hf) λ cl e1 e2=>?_;refine cV cl ?_ (λ n=>by rw [e2 n];rfl);unfold closureFor;show ((forIn ag.names [] λ (x:Str×NameKind) (cs:List (Str×Addr))=>if x.2== .free then do let c<-cellOf aa x.1;pure (ForInStep.yield ((x.1,c)::cs)) else pure (ForInStep.yield cs):Sem _)>>=λ cs=>pure cs)=pure cl;rw [e1];rfl
def eu:∀(names:List (Str×NameKind)) (k:Nat) (aO:List (Str×Addr)),cellsFrom k names aO=cellsFrom k names []++aO:=by
 intro names;induction names with
 |nil=>intro k aO;simp [cellsFrom]
 |cons aa8 r ih=>
  intro k aO;obtain ⟨n,kd⟩:=aa8;unfold cellsFrom;split
  ·rw [ih (k+1) ((n,k)::aO),ih (k+1) [(n,k)],List.append_assoc];rfl
  ·exact ih k aO
def mf:∀(names:List (Str×NameKind)) (k:Nat) (n:Str) (c:Addr),(n,c)∈cellsFrom k names []->(n,NameKind.cell)∈names:=by
 intro names;induction names with
 |nil=>intro k n c h;simp [cellsFrom] at h
 |cons aa8 r ih=>
  intro k n c h;obtain ⟨m,kd⟩:=aa8;unfold cellsFrom at h;split at h
  ·rename_i hc;rw [eu] at h;rcases bR h with h|h
   ·exact Ym _ (ih _ n c h)
   ·have:=bj h;cases this;have:kd= .cell:=by simpa using hc
    subst this;exact di
  ·exact Ym _ (ih _ n c h)
def t6 {m:Str} {kd:NameKind} {r:List (Str×NameKind)} {aO:List (Str×Addr)}:cellsFrom k ((m,kd)::r) aO=if kd== .cell then cellsFrom (k+1) r ((m,k)::aO) else cellsFrom k r aO:=rfl
def gn (names:List (Str×NameKind)) (k:Nat) (n:Str) (h:(n,NameKind.cell)∈names):∃c,(cellsFrom k names []).lookup n=some c:=by
 induction names generalizing k with
 |nil=>exact absurd h List.not_mem_nil
 |cons p r ih=>
  obtain ⟨m,kd⟩:=p;rw [t6];by_cases hr:(n,NameKind.cell)∈r
  ·by_cases q:(kd== .cell)=true
   ·rw [if_pos q];refine aM (ih (k+1) hr) λ c hc=>?_;exact ⟨c,by rw [eu,List.lookup_append,hc];rfl⟩
   ·rw [if_neg q];exact ih k hr
  ·have he:(n,NameKind.cell)=(m,kd):=(cF h).resolve_right hr;cases he;rw [if_pos abl,eu];cases hl:(cellsFrom (k+1) r []).lookup n with
   |some c=>exact ⟨c,by rw [List.lookup_append,hl];rfl⟩
   |none=>exact ⟨k,by rw [List.lookup_append,hl,r5];rfl⟩
noncomputable def g5 (ag:Scope) (C:Addr):List Addr:=(cellsFrom (C+1) ag.names []).map (·.2)
noncomputable def cg (sc:ly) (names:ly):ly:=names.map λ x=>if x.2== .free&&sc.lookup x.1==some .cell then (x.1,.cell) else x
def pG (c:XK sc ρ S aa s.heap):(relabel ag aa).names=cg sc ag.names:=by unfold relabel cg;show List.map _ _=List.map _ _;refine List.map_congr_left λ x ξ=>?_;obtain ⟨n,k⟩:=x;dsimp only;rw [c.kindOf n,c.kind];simp
def xU (sc:ly):∀(names:ly) (n:Str),(cg sc names).lookup n=(names.lookup n).map λ k=>if k== .free&&sc.lookup n==some .cell then .cell else k:=by
 intro names;induction names with
 |nil=>intro n;exact rfl
 |cons aa8 r ih=>
  intro n;obtain ⟨m,k⟩:=aa8;have ih:=ih n;show List.lookup n ((if k== .free&&sc.lookup m==some .cell then (m,.cell) else (m,k))::cg sc r)=_;by_cases e:n=m
  ·subst e;rw [List.lookup_cons (a:=n) (b:=k),beq_self_eq_true];show _=some (if (k==NameKind.free&&sc.lookup n==some NameKind.cell)=true then NameKind.cell else k);split
   ·rw [List.lookup_cons,beq_self_eq_true]
   ·rw [List.lookup_cons,beq_self_eq_true]
  ·have hb:(n==m)=false:=beq_eq_false_iff_ne.mpr e;split<;>simp [List.lookup_cons,hb,ih]
def lookup_mem:∀{l:List (Str×α)} {n:Str} {a:α},(l.map (·.1)).Nodup->(n,a)∈l->l.lookup n=some a:=by
 intro l;induction l with
 |nil=>intros;contradiction
 |cons aa8 r ih=>
  intro n a hn h;obtain ⟨k,b⟩:=aa8;rw [List.map_cons,List.nodup_cons] at hn;rw [List.lookup_cons];rcases cF h with e|h'
  ·injection e with e1 e2;subst e1;subst e2;rw [beq_self_eq_true]
  ·have:n≠k:=λ e=>hn.1 (List.mem_map.mpr ⟨(n,a),h',e⟩);rw [beq_eq_false_iff_ne.mpr this];exact ih hn.2 h'
structure fS (sc:ly) (ρ:eV) (ag:Scope):Prop where
 kind:ag.kind= .function
 nodup:(ag.names.map (·.1)).Nodup
 free:∀n,(n,NameKind.free)∈ag.names->(∃P,ρ.lookup n=some P)/\(sc.lookup n=some .cell\/sc.lookup n=some .free)
def mR (ok:fS sc ρ ag) (c:XK sc ρ S aa s.heap):
  ∃cl,closureFor ag aa=pure cl/\∀(aH:Shared) (X:List Addr),XN s.heap aH.heap->(∀b∈X,s.heap.get? b=none/\∃o,aH.heap.get? b=some o)->
   (∀h',XN s.heap h'->(∀b∈(aH.heap.objs.size::g5 ag aH.heap.objs.size++(X++S)),∃o,h'.get? b=some o)->XK (cg sc ag.names) (e7 ag ρ) (aH.heap.objs.size::g5 ag aH.heap.objs.size++(X++S)) (iC (relabel ag aa) (cellsFrom (aH.heap.objs.size+1) ag.names cl) aH.heap.objs.size aa) h')/\
   (∀b∈(aH.heap.objs.size::g5 ag aH.heap.objs.size++(X++S)),∃o,(pushCells (aH.heap.push {cls:=.type "dict",data:=.dict #[]}) ag.names).get? b=some o)/\
   iV (ownOf ag) (aH.heap.objs.size::g5 ag aH.heap.objs.size++(X++S)) (iC (relabel ag aa) (cellsFrom (aH.heap.objs.size+1) ag.names cl) aH.heap.objs.size aa)
    (pushCells (aH.heap.push {cls:=.type "dict",data:=.dict #[]}) ag.names)/\
   XN aH.heap (pushCells (aH.heap.push {cls:=.type "dict",data:=.dict #[]}) ag.names)/\
   (∀n∈ownOf ag,∀b,(cellsFrom (aH.heap.objs.size+1) ag.names cl).lookup n=some b->aH.heap.objs.size<b)/\
   (∀b∈(aH.heap.objs.size::g5 ag aH.heap.objs.size++(X++S)),b∈S\/s.heap.get? b=none):=by
 have cells:∀n,(n,NameKind.free)∈ag.names->∃cc v P,aa.cells.lookup n=some cc/\s.heap.IsCell cc (some v)/\ρ.lookup n=some P/\P.p (hide S s.heap) v:=λ n hn=>by refine cO (ok.free n hn) λ eK hk=>?_;refine aM eK λ P hP=>?_;have y:=c.vars n P hP;unfold et at y;rw [c.kindOf n] at y;rcases hk with hk|hk<;>rw [hk] at y<;>refine bU y λ cc v a b d=>?_<;>exact ⟨cc,v,P,a,b,hP,d⟩
 obtain ⟨cl,e1,e2⟩:=l9 (aa:=aa) (ag:=ag) λ x hx hf=>by obtain ⟨n,k⟩:=x;have nf:k= .free:=hf;subst nf;refine cY (cells n hx) λ cc v P a ξ=>?_;exact ⟨cc,a⟩
 refine cV cl e1 (λ aH X le hX=>?_);have Dq:XN aH.heap (pushCells (aH.heap.push {cls:=.type "dict",data:=.dict #[]}) ag.names):=λ b o e=>pushCells_keeps _ _ b o (cN _ e);have A9:=cellsFrom_ok ag.names (aH.heap.push {cls:=.type "dict",data:=.dict #[]}) (aH.heap.objs.size+1) [] ⟨λ ξ ξ hm=>(nomatch hm),List.Pairwise.nil⟩ (by rw [Heap.size_push];exact Nat.le_refl _);rw [Heap.size_push] at A9;have r6:∀b∈g5 ag aH.heap.objs.size,aH.heap.objs.size<b/\∃o,(pushCells (aH.heap.push {cls:=.type "dict",data:=.dict #[]}) ag.names).get? b=some o:=λ b hb=>by refine aK (abQ hb) λ p hp gM=>?_;subst gM;refine cO (A9.empty p.1 p.2 hp) λ fN De=>?_;refine aK fN λ o ho ξ=>?_;exact A0 De o ho
 have hC:(pushCells (aH.heap.push {cls:=.type "dict",data:=.dict #[]}) ag.names).Ns aH.heap.objs.size λ ξ=>none:=(Heap.Ns.new aH.heap (.type "dict")).keeps (pushCells_keeps _ _);have fresh:∀b∈(aH.heap.objs.size::g5 ag aH.heap.objs.size++(X++S)),b∈S\/s.heap.get? b=none:=λ b hb=>by
  have Q1:∀b,aH.heap.objs.size≤b->s.heap.get? b=none:=λ b h=>by
   cases e:s.heap.get? b with
   |none=>rfl
   |some o=>exact absurd (Heap.lt_size (le _ _ e)) (Nat.not_lt.mpr h)
  rcases bR hb with h|h
  ·rcases cF h with rfl|h
   ·exact .inr (Q1 _ (Nat.le_refl _))
   ·exact .inr (Q1 _ (Nat.le_of_lt (r6 b h).1))
  ·rcases bR h with h|h
   ·exact .inr (hX b h).1
   ·exact .inl h
 have grow:∀h',XN s.heap h'->XN (hide S s.heap) (hide (aH.heap.objs.size::g5 ag aH.heap.objs.size++(X++S)) h'):=λ h' dS=>dH dS fresh;have look:∀n,(n,NameKind.free)∈ag.names->(cellsFrom (aH.heap.objs.size+1) ag.names cl).lookup n=aa.cells.lookup n:=λ n hn=>by
  rw [eu,List.lookup_append];have:(cellsFrom (aH.heap.objs.size+1) ag.names []).lookup n=none:=by
   cases q:(cellsFrom (aH.heap.objs.size+1) ag.names []).lookup n with
   |none=>rfl
   |some cc=>
    have:=mf _ _ _ _ (mem_of_lookup q);have h1:=lookup_mem ok.nodup this;have h2:=lookup_mem ok.nodup hn;rw [h1] at h2;cases h2
  rw [this];show cl.lookup n=_;rw [e2 n,if_pos];exact List.any_eq_true.mpr ⟨_,hn,by simp⟩
 refine ⟨λ h' dS fx=>⟨pG c,by exact ok.kind,c.glob,c.bi,λ n P e=>?_,fx,c.top.mono (grow h' dS)⟩,λ b hb=>?_,⟨?_,⟨_,hC⟩,λ n hn hk=>?_,λ n hn hk n' cc h1 h2=>?_⟩,Dq,λ n hn b hb=>?_,fresh⟩
 ·unfold e7 at e;rw [vn (λ n=>(freeOf ag).contains n)] at e;split at e
  ·rename_i fv;have vo:(n,NameKind.free)∈ag.names:=by
    have:n∈freeOf ag:=by simpa using fv
    refine aK (abQ this) λ p hp fO=>?_;subst fO;refine cO (aa7 hp) λ Dr Ba=>?_;obtain ⟨a,b⟩:=p;have:b= .free:=by simpa using Ba
    subst this;exact Dr
   refine lZ (cells n vo) λ cc v P' a1 a2 a3 a4=>?_;rw [a3] at e;have e:=Option.some.inj e;subst e;have kk:(iC (relabel ag aa) (cellsFrom (aH.heap.objs.size+1) ag.names cl) aH.heap.objs.size aa).kindOf n=some .cell\/
     (iC (relabel ag aa) (cellsFrom (aH.heap.objs.size+1) ag.names cl) aH.heap.objs.size aa).kindOf n=some .free:=by
    show (relabel ag aa).names.lookup n=_\/(relabel ag aa).names.lookup n=_;rw [pG c,xU,lookup_mem ok.nodup vo];by_cases q:(sc.lookup n==some NameKind.cell)=true
    ·exact .inl (congrArg some (if_pos q))
    ·exact .inr (congrArg some (if_neg q))
   unfold et;have res:∃cc v,(iC (relabel ag aa) (cellsFrom (aH.heap.objs.size+1) ag.names cl) aH.heap.objs.size aa).cells.lookup n=some cc/\
     h'.IsCell cc (some v)/\P'.p (hide (aH.heap.objs.size::g5 ag aH.heap.objs.size++(X++S)) h') v:=
    ⟨cc,v,(look n vo).trans a1,a2.keeps dS,P'.mono (grow h' dS) a4⟩
   rcases kk with kk|kk<;>rw [kk]<;>exact res
  ·cases e
 ·rcases bR hb with h|h
  ·rcases cF h with rfl|h
   ·refine cY hC λ o ξ ξ ho ξ=>?_;exact ⟨o,ho⟩
   ·exact (r6 b h).2
  ·rcases bR h with h|h
   ·obtain ⟨_,o,ho⟩:=hX b h;exact ⟨o,Dq _ _ ho⟩
   ·refine aM (c.b4 b h) λ o ho=>?_;exact ⟨o,Dq _ _ (le _ _ ho)⟩
 ·exact bL _ di
 ·have jz:(n,NameKind.cell)∈ag.names:=by
   refine aK (abQ hn) λ p hp Ds=>?_;subst Ds;refine cO (aa7 hp) λ Dr Ba=>?_;obtain ⟨a,b⟩:=p;have:b= .cell:=by simpa using Ba
   subst this;exact Dr
  refine aM (gn ag.names (aH.heap.objs.size+1) n jz) λ cc Bb=>?_;have hm:=mem_of_lookup Bb;refine cO (A9.empty n cc hm) λ h1 h2=>?_;refine jl cc none ?_ ?_ h1 (Nat.ne_of_gt h2)
  ·show (cellsFrom (aH.heap.objs.size+1) ag.names cl).lookup n=_;rw [eu,List.lookup_append,Bb];rfl
  ·exact bL _ (Ym _ (List.mem_map.mpr ⟨_,hm,rfl⟩))
 ·have jz:(n,NameKind.cell)∈ag.names:=by
   refine aK (abQ hn) λ p hp vp=>?_;subst vp;refine cO (aa7 hp) λ Dr Ba=>?_;obtain ⟨a,b⟩:=p;have:b= .cell:=by simpa using Ba
   subst this;exact Dr
  refine aM (gn ag.names (aH.heap.objs.size+1) n jz) λ qX Bb=>?_;have vq:(cellsFrom (aH.heap.objs.size+1) ag.names cl).lookup n=some cc:=h1;have nG:(cellsFrom (aH.heap.objs.size+1) ag.names cl).lookup n'=some cc:=h2;rw [eu,List.lookup_append] at vq nG;rw [Bb] at vq;cases vq;have hm:=mem_of_lookup Bb;cases q:(cellsFrom (aH.heap.objs.size+1) ag.names []).lookup n' with
  |some c₁=>
   rw [q] at nG;cases nG;exact name_of_addr A9.apart hm (mem_of_lookup q)
  |none=>
   rw [q] at nG;have Bc:cl.lookup n'=some cc:=nG;rw [e2 n'] at Bc;split at Bc
   ·rename_i ha;refine aK (List.any_eq_true.mp ha) λ p hp hq=>?_;obtain ⟨a,b⟩:=p;have Bd:a=n'/\b= .free:=by simpa using hq
    refine cO Bd λ Dt Oc=>?_;subst Dt;subst Oc;refine bw (cells a hp) λ c₂ v P a1 a2 ξ=>?_;rw [a1] at Bc;cases Bc;have c4:cc<aH.heap.objs.size:=by refine aK a2 λ o ho ξ=>?_;exact Heap.lt_size (le _ _ ho)
    exact absurd (A9.empty n cc hm).2 (Nat.not_le.mpr (Nat.lt_succ_of_lt c4))
   ·cases Bc
 ·have jz:(n,NameKind.cell)∈ag.names:=by
   refine aK (abQ hn) λ p hp Du=>?_;subst Du;refine cO (aa7 hp) λ Dr Ba=>?_;obtain ⟨a,b⟩:=p;have:b= .cell:=by simpa using Ba
   subst this;exact Dr
  refine aM (gn ag.names (aH.heap.objs.size+1) n jz) λ qX Bb=>?_;rw [eu,List.lookup_append,Bb] at hb;cases hb;exact (A9.empty n _ (mem_of_lookup Bb)).2
def kW (ak:List Str) (aa:Env) (s s':Shared):Prop:=∀b o,b≠aa.locals->(∀n∈ak,aa.cells.lookup n≠some b)->s.heap.get? b=some o->s'.heap.get? b=some o
def kW.trans {a b c:Shared} (x:kW ak aa a b) (y:kW ak aa b c):kW ak aa a c:=λ d o h1 h2 e=>y d o h1 h2 (x d o h1 h2 e)
def jn (A:Around) (sc:ly) (ak:List Str) (t:Expr) (W:YJ) (β:eV):Prop:=
 ∀ρ S aa (s:Shared) v (Q:Unit->Shared->Prop) (E:Value->Shared->Prop),XK sc ρ S aa s.heap->iV ak S aa s.heap->W.p (hide S s.heap) v->
  (∀s',abO S s s'->XK sc (β++ρ) S aa s'.heap->iV ak S aa s'.heap->kW ak aa s s'->Q () s')->wpAny (model XX w) A (assign t aa v) Q E s
def bB {x:Str} (hx:cw ak sc x=true):jn A sc ak (.Name x ar) P [(x,P)]:=λ ρ S aa s v Q E c o p h=>
 wpAny_assign_Name (gO c o hx p λ s' a b d f=>h s' a b d f)
def Gs (xs:List (Str×Pos)):∀(YN:List YJ) (vs:List Value) (ρ:eV) (s:Shared) (Q:Unit->Shared->Prop),
  XK sc ρ S aa s.heap->iV ak S aa s.heap->xs.length=YN.length->(∀x∈xs,cw ak sc x.1=true)->AllP (hide S s.heap) YN vs->
  (∀s',abO S s s'->XK sc (((xs.map (·.1)).zip YN).reverse++ρ) S aa s'.heap->iV ak S aa s'.heap->kW ak aa s s'->Q () s')->
  wpAny (model XX w) A (assignInOrder (xs.map λ x=>assign (.Name x.1 x.2) aa) vs) Q E s:=by
 induction xs with
 |nil=>
  intro YN vs ρ s Q c o hl _ p h;cases YN with
  |cons _ _=>cases hl
  |nil=>
   rw [List.map_nil];cases vs with
   |cons _ _=>exact p.elim
   |nil=>
   exact X5 (h s (abO.refl _ _) c o λ ξ ξ ξ ξ e=>e)
 |cons x xs ih=>
  intro YN vs ρ s Q c o hl hs p h;cases YN with
  |nil=>cases hl
  |cons P YN=>
   cases vs with
   |nil=>exact p.elim
   |cons v vs=>
    obtain ⟨p,ps⟩:=p;show wpAny (model XX w) A (holding vs (assign (.Name x.1 x.2) aa v)>>=λ ξ=>assignInOrder (xs.map λ x=>assign (.Name x.1 x.2) aa) vs) Q E s;refine Z4 (XG (wpAny_assign_Name (gO c o (hs x di) p λ aj k c₁ pH f=>?_)));refine ih YN vs _ aj Q c₁ pH (Nat.succ.inj hl) (λ y hy=>hs y (Ym _ hy)) (ps.mono k.le) λ aA k₂ c₂ Be bh=>h aA (k.trans k₂) ?_ Be (kW.trans f bh);rw [List.map_cons,List.zip_cons_cons,List.reverse_cons,List.append_assoc];exact c₂
def mh {xs:List (Str×Pos)} (hh:A.handled=none) (hl:xs.length=YN.length) (hs:∀x∈xs,cw ak sc x.1=true):
  jn A sc ak (.Tuple (xs.map λ x=>.Name x.1 x.2) k ar) (f5 YN) ((xs.map (·.1)).zip YN).reverse:=λ ρ S aa s v Q E c o p h=>by
 obtain ⟨a,vs,m,rfl,ha,pa⟩:=p;have e1:=pa.length;rw [Array.length_toList] at e1;rw [arm_assign_Tuple];have he:∀ys:List (Str×Pos),assignEach (ys.map λ x=>Expr.Name x.1 x.2) aa=ys.map λ x=>(false,assign (.Name x.1 x.2) aa):=by
  intro ys;induction ys with
  |nil=>rfl
  |cons y ys ih=>rw [List.map_cons,List.map_cons,<-ih];rfl
 rw [he];refine Z4 (ig (wpAny_unpack_tuple hh ⟨_,ao _ _ ha,rfl,_,rfl⟩ (by rw [lm,hl,e1]) ?_ λ h' hk=>?_))
 ·rw [List.findIdx?_eq_none_iff];intro y hy;obtain ⟨z,_,rfl⟩:=abQ hy;rfl
 ·rw [List.map_map];have kk:Keeps s {s with heap:=h'}:=⟨_,_,rfl,λ b o' e=>hk b o' (Nat.ne_of_lt (Heap.lt_size e)) e⟩;refine Gs xs YN vs.toList ρ {s with heap:=h'} Q (c.mono (kle kk)) ⟨o.loc,let ⟨m,hm⟩:=o.ns;⟨m,hm.keeps (kle kk)⟩,λ n hn q=>let ⟨cc,v,a1,a2,a3,a4⟩:=o.gb n hn q;⟨cc,v,a1,a2,a3.keeps (kle kk),a4⟩,o.inj⟩ hl hs
   (pa.mono (aJ (kle kk))) λ s' k₂ c₂ Be bh=>h s' ((abO.of kk).trans k₂) c₂ Be λ b o' h1 h2 e=>bh b o' h1 h2 (kle kk b o' e)
def jn.conv {t:Expr} {aaQ:YJ} {β:eV} (x:jn A sc ak t W β) (h:∀h v,aaQ.p h v->W.p h v):jn A sc ak t aaQ β:=λ ρ S aa s v Q E c o p k=>x ρ S aa s v Q E c o (h _ _ p) k
noncomputable def Bf (bA:List Expr) (aa:Env):Sem Bool:=forIn bA true λ c r=>if r=true then do let ok<-isTrue c aa (eval c aa);pure (ForInStep.yield ok) else pure (ForInStep.yield r)
def r7 (e:Expr) (d:Nat) (it aO:Value) (cenv:Env) (aN:Expr) (ipos:Pos) (bA:List Expr) (cJ:Sem Unit):Prop:=
 compTurn e d it aO cenv=(do
   standAt ipos
   match<-pyNext it with
   |none=>pure (.done .next)
   |some v=>
    letOwnedTupleGo aN it v
    assign aN cenv v
    let mut ok:=true
    for c in bA do
     if ok then ok<-isTrue c cenv (eval c cenv)
    if ok then cJ
    again (.compLoop e d it aO cenv))
def rm {d:Nat} {it aO:Value} {cenv:Env} {ipos:Pos} {cJ:Sem Unit} {R:Result->Shared->Prop} (ht:r7 e d it aO cenv aN ipos bA cJ) (n:Nat) (J:Nat->Shared->Prop)
  (step:∀i s,i<n->J i s->wpAny (model XX w) A (pyNext it) (λ r aj=>∃v,r=some v/\wpAny (model XX w) A (letOwnedTupleGo aN it v) (λ ξ zF=>wpAny (model XX w) A (assign aN cenv v) (λ ξ aA=>
   wpAny (model XX w) A (Bf bA cenv) (λ ok aH=>if ok=true then wpAny (model XX w) A cJ (λ ξ bS=>J (i+1) bS) dj aH else J (i+1) aH) dj aA) dj zF) dj aj) dj s)
  (done:∀s,J n s->wpAny (model XX w) A (pyNext it) (λ r aj=>r=none/\R (.ok .next) aj) dj s) (h:J 0 s)
  (hA:A.under (.compLoop e d it aO cenv)=A) (hq:(Code.compLoop e d it aO cenv).quiet=true) (Bg:(model XX w).den (.compLoop e d it aO cenv)=(compTurn e d it aO cenv).onRaise (λ x=>do noteFrame x cenv;theTreesLotGoes x)):codeAny (model XX w) A (.compLoop e d it aO cenv) R s:=by
 have up:∀{α:Type} {t:Sem α} {Q:α->Shared->Prop} {E:Value->Shared->Prop} {s:Shared},wpAny (model XX w) A t Q dj s->wpAny (model XX w) A t Q E s:=λ h=>Zh h dp eY;refine codeAny_loop hq (λ k s=>∃i,i≤n/\k=n - i/\J i s) (λ k s hI=>?_) n ⟨0,Nat.zero_le _,rfl,h⟩;obtain ⟨i,hi,rfl,hJ⟩:=hI;rw [hA,Bg];refine wpAny_noted ?_;rw [ht];refine Z4 (ig (Z4 ?_));by_cases c4:i<n
 ·refine up (Zh (step i s c4 hJ) (λ r aj q=>?_) dp);obtain ⟨v,rfl,q⟩:=q;refine Z4 (Zh q (λ ξ zF q=>Z4 (Zh q (λ ξ aA q=>Z4 (Zh q (λ ok aH q=>?_) eY)) eY)) eY);cases ok with
  |false=>exact X5 ⟨rfl,n - (i+1),by omega,i+1,c4,rfl,q⟩
  |true=>exact Z4 (Zh q (λ ξ bS q=>X5 ⟨rfl,n - (i+1),by omega,i+1,c4,rfl,q⟩) eY)
 ·have:i=n:=by omega
  subst this;refine up (Zh (done s hJ) (λ r aj q=>?_) dp);obtain ⟨rfl,q⟩:=q;exact X5 q
def up {t:Sem α} {Q:α->Shared->Prop} (h:wpAny (model XX w) A t Q dj s):wpAny (model XX w) A t Q E s:=Zh h dp eY
structure zG (A:Around) (S:List Addr) (aj:Shared) (I:Addr) (fp wr:List Addr) {ι:Type} (ai:List ι) (abL:ι->YJ) (Ok:Expr->Prop) (St:Nat->Heap->Prop):Prop where
 sub:∀b∈wr,b∈fp
 frame:∀i h h',St i h->(∀b∈fp,∀o,h.get? b=some o->h'.get? b=some o)->St i h'
 turn:∀i (hi:i<ai.length) aN,Ok aN->∀(s:Shared) (S':List Addr) (Q:Value->Shared->Prop),St i s.heap->XN (hide S aj.heap) (hide S' s.heap)->(∀b∈wr,b∈S')->(∀b∈S',∃o,s.heap.get? b=some o)->
  (∀v h' tk,(abL ai[i]).p (hide S' h') v->St (i+1) h'->(∀b o,b∉wr->s.heap.get? b=some o->h'.get? b=some o)->Q v {s with heap:=h',toks:=tk})->
  wpAny (model XX w) A (pyNext (.ref I)) (λ r aA=>∃v,r=some v/\wpAny (model XX w) A (letOwnedTupleGo aN (.ref I) v) (λ ξ aH=>Q v aH) dj aA) dj s
 done:∀(s:Shared) (Q:Option Value->Shared->Prop) (E:Value->Shared->Prop),St ai.length s.heap->
  (∀h' tk,(∀b o,b∉wr->s.heap.get? b=some o->h'.get? b=some o)->Q none {s with heap:=h',toks:=tk})->wpAny (model XX w) A (pyNext (.ref I)) Q E s
 self:∀i (s:Shared) (Q:Value->Shared->Prop) (E:Value->Shared->Prop),St i s.heap->Q (.ref I) s->wpAny (model XX w) A (pyIter (.ref I)) Q E s
 live:∀i h,St i h->∀b∈wr,∃o,h.get? b=some o
 new:∀b∈wr,aj.heap.get? b=none
 out:∀b∈fp,b∉S
 r8:∀b∈fp,b∉wr->∃o,(hide S aj.heap).get? b=some o
def Od (A:Around) (S:List Addr) (aj aA:Shared) (it:Value) {ι:Type} (ai:List ι) (abL:ι->YJ) (Ok:Expr->Prop):Prop:=
 ∃I fp wr St,it= .ref I/\zG A S aj I fp wr ai abL Ok St/\St 0 aA.heap/\(∀b∈fp,b<aA.heap.objs.size)
def jP (A:Around) (sc:ly) (ρ:eV) (aG:Expr) {ι:Type} (ai:List ι) (abL:ι->YJ) (Ok:Expr->Prop):Prop:=
 ∀S aa s,XK sc ρ S aa s.heap->wpAny (model XX w) A (eval aG aa) (λ x aaq=>∃aj,Keeps s aj/\Keeps aj aaq/\wpAny (model XX w) A (pyIter x) (λ it aA=>Keeps aaq aA/\Od A S aj aA it ai abL Ok) dj aaq) dj s
def lM (A:Around) (sc:ly) (ρ:eV) (bA:List Expr) (b:Bool):Prop:=
 ∀S aa s,XK sc ρ S aa s.heap->wpAny (model XX w) A (Bf bA aa) (λ r s'=>Keeps s s'/\r=b) dj s
def fy:lM A sc ρ [] true:=λ S aa s c=>wpAny_tests_nil ⟨cB _,rfl⟩
def e8 {b:Bool} (h:te A sc ρ e b):lM A sc ρ [e] b:=λ S aa s c=>wpAny_tests_one (h S aa s c)
inductive Plain:Expr->Prop
 |name (x:Str) (p:Pos):Plain (.Name x p)
 |tup (es:List Expr) (k:Nat) (p:Pos):Plain (.Tuple es k p)
def mi {aA:Shared} (k:XN aj.heap aA.heap) (h:aA.heap.objs.size<=b):aj.heap.get? b=none:=by
 cases e:aj.heap.get? b with
 |none=>rfl
 |some o=>exact absurd (Heap.lt_size (k _ _ e)) (Nat.not_lt.mpr h)
def Gu (T:er h):349<h.objs.size:=Heap.lt_size (T.k 349 HP abl)
def r9 (c:XK sc ρ S aa s.heap):(s.heap.objs.size==sysModules)=false:=by
 have h1:@LT.lt Nat _ 349 (hide S s.heap).objs.size:=Gu c.top;have h2:(hide S s.heap).objs.size=s.heap.objs.size:=by
  have a8:∀S:List Addr,(hide S s.heap).objs.size=s.heap.objs.size:=by
   intro S;induction S with
   |nil=>rfl
   |cons a S ih=>show (blind a (hide S s.heap)).objs.size=_;rw [<-ih];exact (Heap.SameBut.update (hide S s.heap) a _).1
  exact a8 S
 rw [beq_eq_false_iff_ne];intro q;have h3:@Eq Nat s.heap.objs.size sysModules:=q;have h4:@LE.le Nat _ sysModules 349:=by decide
 w_up
def oh (A:Around) (ak:List Str) (D:Addr) (Q2:Heap->Obj->Prop) (S':List Addr) (cenv:Env) (s:Shared) (t:Sem Unit):Prop:=
 wpAny (model XX w) A t (λ ξ s'=>∃o',s'.heap.get? D=some o'/\Q2 (hide S' s'.heap) o'/\abO S' s s'/\iV ak S' cenv s'.heap/\
  (∀b o,b≠D->b≠cenv.locals->(∀n∈ak,cenv.cells.lookup n≠some b)->s.heap.get? b=some o->s'.heap.get? b=some o)) dj s
def xV (names:List (Str×NameKind)) (k:Nat) (n:Str) (b:Addr) (h:(n,b)∈cellsFrom k names []):@LE.le Nat _ k b:=by
 induction names generalizing k with
 |nil=>exact absurd h List.not_mem_nil
 |cons p r ih=>
  obtain ⟨m,kd⟩:=p;rw [t6] at h;by_cases q:(kd== .cell)=true
  ·rw [if_pos q,eu] at h;rcases bR h with h|h
   ·exact Nat.le_of_succ_le (ih (k+1) h)
   ·have:=bj h;cases this;exact Nat.le_refl _
  ·rw [if_neg q] at h;exact ih k h
def Bh (ok:fS sc ρ ag) (c:XK sc ρ S aa s.heap) (pI:closureFor ag aa=pure cl) {n:Str} (h:(cellsFrom (C+1) ag.names cl).lookup n=some b):@LT.lt Nat _ C b\/∃o,s.heap.get? b=some o:=by
 have cells:∀n,(n,NameKind.free)∈ag.names->∃cc o,aa.cells.lookup n=some cc/\s.heap.get? cc=some o:=λ n hn=>by refine cO (ok.free n hn) λ cX hk=>?_;refine aM cX λ P hP=>?_;have y:=c.vars n P hP;unfold et at y;rw [c.kindOf n] at y;rcases hk with hk|hk<;>rw [hk] at y<;>(refine bU y λ cc v a c7 d=>?_;refine aK c7 λ o b ξ=>?_)<;>exact d8 cc o a b
 obtain ⟨uz,e1,e2⟩:=l9 (aa:=aa) (ag:=ag) λ x hx hf=>by obtain ⟨n,k⟩:=x;have nf:k= .free:=hf;subst nf;refine bu (cells n hx) λ cc o a ξ=>?_;exact ⟨cc,a⟩
 have:uz=cl:=by rw [e1] at pI;exact Sem.pure.inj pI
 subst this;rw [eu,List.lookup_append] at h;cases q:(cellsFrom (C+1) ag.names []).lookup n with
 |some c₁=>
  rw [q] at h;cases h;exact .inl (xV _ _ _ _ (mem_of_lookup q))
 |none=>
  rw [q] at h;have h':uz.lookup n=some b:=h;rw [e2 n] at h';split at h'
  ·rename_i ha;refine aK (List.any_eq_true.mp ha) λ p hp hq=>?_;obtain ⟨a,k⟩:=p;have Bd:a=n/\k= .free:=by simpa using hq
   refine cO Bd λ eL sd=>?_;subst eL;subst sd;refine bu (cells a hp) λ cc o a1 a2=>?_;rw [a1] at h';cases h';exact .inr ⟨o,a2⟩
  ·cases h'
def oi {ai:List ι} {abL:ι->YJ} {gs:List Comprehension} {be:Pos} {β:ι->eV} {p:ι->Bool} {Fi:Sem Value} {cJ:Value->Env->Sem Unit} {Acc:Nat->Heap->Obj->Prop} {use:Option (Value->Sem Unit)} {Q:Value->Shared->Prop}
  (ok:fS sc ρ ag) {Ok:Expr->Prop} (hs:jP A sc ρ aG ai abL Ok) (iG:∀aa x,foldedSetIterable aG aa x=pure x) (bl:ai.length<=sizeLine) (g8:Ok aN)
  (ht:∀a∈ai,jn A (cg sc ag.names) (ownOf ag) aN (abL a) (β a))
  (ng:∀a∈ai,lM A (cg sc ag.names) (β a++e7 ag ρ) bA (p a))
  (qS:clausesOf e=⟨aN,aG,bA,0⟩::gs)
  (r6:∀(s:Shared) (Q:Value->Shared->Prop),(∀o:Obj,o.isFreed=false->(∀g,Acc 0 g o)->Q (.ref s.heap.objs.size) {s with heap:=s.heap.push o})->wpAny (model XX w) A Fi Q E s)
  (mj:∀{i g g' o},XN g g'->Acc i g o->Acc i g' o) (Dv:∀i (hi:i<ai.length) g o,p ai[i]=false->Acc i g o->Acc (i+1) g o)
  (Dw:∀i (hi:i<ai.length),p ai[i]=true->∀S' cenv (D:Addr) (s:Shared) o,XK (cg sc ag.names) (β ai[i]++e7 ag ρ) S' cenv s.heap->iV (ownOf ag) S' cenv s.heap->D∈S'->D≠cenv.locals->(∀n,cenv.cells.lookup n≠some D)->s.heap.get? D=some o->Acc i (hide S' s.heap) o->
   oh A (ownOf ag) D (Acc (i+1)) S' cenv s (cJ (.ref D) cenv))
  (Dx:∀it D cenv,r7 e 0 it D cenv aN aG.pos bA (cJ D cenv))
  (Bg:∀it aO cenv,(model XX w).den (.compLoop e 0 it aO cenv)=(compTurn e 0 it aO cenv).onRaise (λ x=>do noteFrame x cenv;theTreesLotGoes x))
  (H7:∀it aO cenv,A.under (.compLoop e 0 it aO cenv)=A) (Oe:∀it aO cenv,(Code.compLoop e 0 it aO cenv).quiet=true)
  (zH:∀it aO cenv R (s:Shared),codeAny (model XX w) A (.compLoop e 0 it aO cenv) R s->wpAny (model XX w) A (pyIter it) (λ se s'=>codeAny (model XX w) A (.compLoop e 0 se aO cenv) R s') (notedBy (model XX w) A cenv λ x s'=>R (.error x) s') s->codeAny (model XX w) A (.compStart e 0 it aO cenv) R s)
  (c:XK sc ρ S aa s.heap)
  (hQ:∀(D C:Addr) s',Keeps s s'->s.heap.get? C=none->s.heap.get? D=none->C≠D->(D==sysModules)=false->(∃m,s'.heap.Ns C m)->(∃o,(hide (C::S) s'.heap).get? D=some o/\Acc ai.length (hide (C::S) s'.heap) o)->compPost (model XX w) A E use Q (.ref D) C (.ok .next) s'):
  wpAny (model XX w) A (comprehension e ag aa be Fi false (eval aG aa) use) Q E s:=by
 refine aK (mR ok c) λ cl pI ξ=>?_;refine wpAny_comprehension_free (cl:=cl) qS (iG aa) pI ok.kind (λ z hz hl=>by obtain ⟨n,k⟩:=z;exact (lookup_mem ok.nodup hz).trans (congrArg some hl)) ?_
 refine Zh (hs S aa s c) (λ xv aaq q=>?_) eY;refine cZ q λ aj k₁ kx q=>?_;refine Zh q (λ it aA q=>?_) eY;refine jH q λ k₂ I fp wr St fN W o6 kX=>?_;subst fN;replace k₂:=aL kx k₂;have H8:=W.new;have H9:=W.live;have c₁:=c.mono (kle k₁);have Dy:=r9 (s:=aA) (c₁.mono (kle k₂));refine aK (mR ok c₁) λ uz qD fv=>?_;have qS:uz=cl:=by rw [pI] at qD;exact (Sem.pure.inj qD).symm
 subst qS;refine r6 aA _ λ Fj Lk Ia=>?_;generalize vt:({aA with heap:=aA.heap.push Fj}:Shared)=aH;have oj:aH.heap=aA.heap.push Fj:=by rw [<-vt]
 have kh:XN aA.heap aH.heap:=λ b o e=>by rw [oj];exact cN _ e
 have tg:XN aj.heap aH.heap:=(kle k₂).trans kh;have hsz:aH.heap.objs.size=aA.heap.objs.size+1:=by rw [oj,Heap.size_push]
 have hD:aH.heap.get? aA.heap.objs.size=some Fj:=by rw [oj];exact Heap.get?_push_size _ Lk
 have vv:Keeps aj aH:=by refine aL k₂ ?_;rw [<-vt];exact d8 _ _ rfl (λ b o e=>cN _ e)
 obtain ⟨Gv,nH,sf,jd,kG,fresh⟩:=fv aH (aA.heap.objs.size::wr) tg (λ b hb=>by
  rcases cF hb with rfl|hb
  ·exact A0 (mi (kle k₂) (Nat.le_refl _)) _ hD
  ·refine aM (H9 0 _ o6 b hb) λ o e=>?_;exact A0 (H8 b hb) o (kh _ _ e))
 refine A7 ?_;show codeAny _ _ (.compStart _ 0 (.ref I) (.ref aA.heap.objs.size) (iC (relabel ag aa) (cellsFrom (aH.heap.objs.size+1) ag.names uz) aH.heap.objs.size aa)) _ _;generalize hC:aH.heap.objs.size=C at*;generalize Ll:aA.heap.objs.size=D at*;generalize vy:iC (relabel ag aa) (cellsFrom (C+1) ag.names uz) C aa=cenv at*;have ir:cenv.locals=C:=by rw [<-vy];rfl
 have iX:cenv.cells=cellsFrom (C+1) ag.names uz:=by rw [<-vy];rfl
 generalize je:(C::g5 ag C++(D::wr++S))=S' at*;have Of:C∈S':=by rw [<-je];exact bL _ di
 have e9:D∈S':=by rw [<-je];exact bC _ (bL _ di)
 have Dz:∀b∈wr,b∈S':=λ b hb=>by rw [<-je];exact bC _ (bL _ (Ym _ hb))
 have lA:∀b∈S,b∈S':=λ b hb=>by rw [<-je];exact bC _ (bC _ hb)
 have pJ:@Eq Nat C (D+1):=hsz;have Bj:C≠D:=λ e=>Nat.succ_ne_self D (pJ.symm.trans e);have Fk:∀b∈fp,b≠C:=λ b hb e=>by have h1:@LT.lt Nat _ b D:=kX b hb;have h2:@Eq Nat b C:=e;w_up
 have Ib:∀b∈fp,b≠D:=λ b hb e=>by have h1:@LT.lt Nat _ b D:=kX b hb;have h2:@Eq Nat b D:=e;w_up
 have Fl:∀b∈fp,∀n∈ownOf ag,cenv.cells.lookup n≠some b:=λ b hb n hn e=>by have h1:@LT.lt Nat _ C b:=kG n hn b (by rw [<-iX];exact e);have h2:@LT.lt Nat _ b D:=kX b hb;w_up
 have Og:∀n,cenv.cells.lookup n≠some D:=λ n q=>by
  rw [iX] at q;rcases Bh ok c₁ qD q with h|⟨o,h⟩
  ·w_up
  ·rw [mi (kle k₂) (by rw [Ll];exact Nat.le_refl _)] at h;cases h
 have jt:∀b,D≤b->aj.heap.get? b=none:=λ b h=>mi (kle k₂) (by rw [Ll];exact h);have zI:∀n∈ownOf ag,∀b,cenv.cells.lookup n=some b->aj.heap.get? b=none:=λ n hn b e=>by have h1:@LT.lt Nat _ C b:=kG n hn b (by rw [<-iX];exact e);exact jt b (by show @LE.le Nat _ D b;w_up)
 have dw:∀b o,aj.heap.get? b=some o->b≠D/\b≠cenv.locals/\(∀n∈ownOf ag,cenv.cells.lookup n≠some b)/\b∉wr:=λ b o e=>by
  refine iD (λ h=>?_) (λ h=>?_) (λ n hn h=>?_) (λ h=>?_)
  ·rw [jt b (Nat.le_of_eq h.symm)] at e;cases e
  ·rw [jt b (by rw [h,ir,pJ];exact Nat.le_succ _)] at e;cases e
  ·rw [zI n hn b h] at e;cases e
  ·rw [H8 b h] at e;cases e
 generalize vz:({aH with heap:=pushCells (aH.heap.push {cls:=.type "dict",data:=.dict #[]}) ag.names}:Shared)=bS;have zJ:bS.heap=pushCells (aH.heap.push {cls:=.type "dict",data:=.dict #[]}) ag.names:=by rw [<-vz]
 have nI:Keeps aj bS:=by refine aL vv ?_;rw [<-vz];exact d8 _ _ rfl (λ b o e=>jd b o e)
 rw [<-zJ] at nH sf jd;have vA:St 0 bS.heap:=W.frame _ _ _ o6 λ b ξ o e=>jd _ _ (kh _ _ e);let J:Nat->Shared->Prop:=λ i s'=>Keeps aj s'/\(∀b∈S',∃o,s'.heap.get? b=some o)/\iV (ownOf ag) S' cenv s'.heap/\St i s'.heap/\∃o,s'.heap.get? D=some o/\Acc i (hide S' s'.heap) o;have loop:codeAny (model XX w) A (.compLoop e 0 (.ref I) (.ref D) cenv) (compPost (model XX w) A E use Q (.ref D) C) bS:=by
  refine rm (n:=ai.length) (aN:=aN) (ipos:=aG.pos) (bA:=bA) (cJ:=cJ (.ref D) cenv) (Dx _ _ _) J ?_ ?_ ⟨nI,nH,sf,vA,Fj,jd _ _ hD,Ia _⟩ (H7 _ _ _) (Oe _ _ _) (Bg _ _ _)
  ·rintro i s' hi ⟨XY,ZZ,abR,vB,Z6,DA,o7⟩;refine W.turn i hi aN g8 s' S' _ vB (dH (kle XY) fresh) Dz ZZ λ v h' tk hv ip dE=>?_;have ha:ai[i]∈ai:=List.getElem_mem hi;have zK:Keeps aj {s' with heap:=h',toks:=tk}:=by refine bu XY λ hh tt e kk=>?_;exact d8 h' tk (by rw [e]) (λ b o x=>dE b o (dw b o x).2.2.2 ((by rw [e];exact kk b o x)))
   have tm:∀b,D≤b->b∉wr:=λ b h m=>Nat.not_lt.mpr h (kX b (W.sub b m));have nh:abO S' s' {s' with heap:=h',toks:=tk}:=⟨⟨_,_,rfl⟩,λ b o n e=>dE b o (λ m=>n (Dz b m)) e,λ b o e=>by
    by_cases m:b∈wr
    ·exact H9 _ _ ip b m
    ·exact ⟨o,dE b o m e⟩⟩
   have Oh:iV (ownOf ag) S' cenv h':=abR.keep (λ o e=>dE _ o (tm _ (by rw [ir,pJ];exact Nat.le_succ _)) e)
    λ n hn cc q o e=>dE _ o (tm _ (by have h1:@LT.lt Nat _ C cc:=kG n hn cc (by rw [<-iX];exact q);show @LE.le Nat _ D cc;w_up)) e
   have vC:∀b∈S',∃o,h'.get? b=some o:=λ b hb=>let ⟨o,e⟩:=ZZ b hb;nh.live b o e;have UE:=Gv h' (kle zK) vC;refine ht _ ha (e7 ag ρ) S' cenv _ v _ _ UE Oh hv λ bY h9 pK yE iu=>?_;have qY:Keeps aj bY:=by refine bu zK λ hh tt e kk=>?_;refine cS h9.same λ Oi Oj e'=>?_;refine d8 Oi Oj (by rw [e',e]) (λ b o x=>?_);have:=iu b o (dw b o x).2.1 (dw b o x).2.2.1 (by rw [e];exact kk b o x);rw [e'] at this;exact this
   have tn:St (i+1) bY.heap:=W.frame _ _ _ ip λ b hb o e=>iu b o (λ q=>Fk b hb (q.trans ir)) (Fl b hb) e;have vD:bY.heap.get? D=some Z6:=iu D _ (λ q=>Bj (ir.symm.trans q.symm)) (λ n hn q=>by have h1:@LT.lt Nat _ C D:=kG n hn D (by rw [<-iX];exact q);w_up) (dE D _ (tm D (Nat.le_refl _)) DA)
   have kb:Acc i (hide S' bY.heap) Z6:=mj h9.le (mj nh.le o7);have Fo:∀b∈S',∃o,bY.heap.get? b=some o:=λ b hb=>let ⟨o,e⟩:=vC b hb;h9.live b o e;refine Zh (ng _ ha S' cenv bY pK) (λ UG dK q=>?_) dp;refine cO q λ fz rl=>?_;subst rl;have Fp:∀{h h':Heap},XN h h'->iV (ownOf ag) S' cenv h->iV (ownOf ag) S' cenv h':=λ le o=>o.keep (λ o e=>le _ o e) λ ξ ξ ξ ξ o e=>le _ o e;cases hp:p ai[i] with
   |false=>
    simp only [Bool.false_eq_true,if_false];exact ⟨aL qY fz,λ b hb=>let ⟨o,e⟩:=Fo b hb;⟨o,kle fz _ _ e⟩,Fp (kle fz) yE,W.frame _ _ _ tn λ b ξ o e=>kle fz _ _ e,Z6,kle fz _ _ vD,Dv i hi _ _ hp (mj (aJ (kle fz)) kb)⟩
   |true=>
    simp only [if_true];have UH:∀n,cenv.cells.lookup n≠some D:=λ n q=>Og n q;refine Zh (Dw i hi hp S' cenv D dK Z6 (pK.mono (kle fz)) (Fp (kle fz) yE) e9 (λ q=>Bj (ir.symm.trans q.symm)) UH (kle fz _ _ vD) (mj (aJ (kle fz)) kb)) (λ ξ mS q=>?_) dp;refine d5 q λ Ic Ie vE iH Lm hx=>?_;have Ig:Keeps aj dK:=aL qY fz;refine ⟨?_,λ b hb=>?_,Lm,W.frame _ _ _ tn λ b hb o e=>?_,Ic,Ie,vE⟩
    ·refine bu Ig λ hh tt e kk=>?_;refine cS iH.same λ qZ Fq Bk=>?_;refine d8 qZ Fq (by rw [Bk,e]) (λ b o x=>?_);have:=hx b o (dw b o x).1 (dw b o x).2.1 (dw b o x).2.2.1 (by rw [e];exact kk b o x);rw [Bk] at this;exact this
    ·refine aM (Fo b hb) λ o e=>?_;exact iH.live b o (kle fz _ _ e)
    ·exact hx _ o (Ib b hb) (λ q=>Fk b hb (q.trans ir)) (Fl b hb) (kle fz _ _ e)
  ·rintro s' ⟨XY,ZZ,abR,vB,Z6,DA,o7⟩;refine W.done s' _ _ vB λ h' tk dE=>⟨rfl,?_⟩;have tm:∀b,D≤b->b∉wr:=λ b h m=>Nat.not_lt.mpr h (kX b (W.sub b m));have zK:Keeps aj {s' with heap:=h',toks:=tk}:=by refine bu XY λ hh tt e kk=>?_;exact d8 h' tk (by rw [e]) (λ b o x=>dE b o (dw b o x).2.2.2 ((by rw [e];exact kk b o x)))
   have dS:XN (hide S' s'.heap) (hide S' h'):=b5 λ b o n e=>dE b o (λ m=>n (Dz b m)) e;have old:∀b,D≤b->s.heap.get? b=none:=λ b h=>by
    cases e:s.heap.get? b with
    |none=>rfl
    |some o=>have:=jt b h;rw [kle k₁ _ _ e] at this;cases this
   refine hQ D C _ (aL k₁ zK) (old C (by rw [pJ];exact Nat.le_succ _)) (old D (Nat.le_refl _)) Bj Dy ?_ ?_
   ·refine aM abR.ns λ mm vp=>?_;refine cY vp λ o es ep e r=>?_;exact pn mm o es ep (dE _ _ (tm _ (by rw [pJ];exact Nat.le_succ _)) (by rw [<-ir];exact e)) r
   ·refine cV Z6 ?_ ?_
    ·show Heap.get? (hide (C::S) h') D=_;rw [bI,if_neg]
     ·exact dE _ _ (tm _ (Nat.le_refl _)) DA
     ·intro hm;rcases cF hm with e|hm
      ·exact Bj e.symm
      ·refine aM (c₁.b4 D hm) λ o e=>?_;rw [jt D (Nat.le_refl _)] at e;cases e
    ·exact mj (cT λ b hb=>by
      rcases cF hb with rfl|hb
      ·exact Of
      ·exact lA b hb) (mj dS o7)
 show codeAny _ _ _ (compPost _ _ _ _ _ _ C) _;exact zH _ _ _ _ _ loop (W.self 0 _ _ _ vA loop)
def mn {ai:List ι} {abL:ι->YJ} {β:ι->eV} {p:ι->Bool} {R:ι->YJ} {use:Option (Value->Sem Unit)} {Q:Value->Shared->Prop}
  (ok:fS sc ρ ag) {Ok:Expr->Prop} (hs:jP A sc ρ aG ai abL Ok) (iG:∀aa x,foldedSetIterable aG aa x=pure x) (bl:ai.length<=sizeLine) (g8:Ok aN)
  (ht:∀a∈ai,jn A (cg sc ag.names) (ownOf ag) aN (abL a) (β a))
  (ng:∀a∈ai,lM A (cg sc ag.names) (β a++e7 ag ρ) bA (p a))
  (ni:∀a∈ai,p a=true->Ev A (cg sc ag.names) (β a++e7 ag ρ) bP (R a))
  (c:XK sc ρ S aa s.heap)
  (hQ:∀(D C:Addr) s',Keeps s s'->s.heap.get? C=none->s.heap.get? D=none->C≠D->(∃m,s'.heap.Ns C m)->(cH ((ai.filter p).map R)).p (hide (C::S) s'.heap) (.ref D)->compPost (model XX w) A E use Q (.ref D) C (.ok .next) s'):
  wpAny (model XX w) A (comprehension (.ListComp bP [⟨aN,aG,bA,0⟩] ag ar) ag aa be (newList []) false (eval aG aa) use) Q E s:=by
 refine oi (ai:=ai) (e:=.ListComp bP [⟨aN,aG,bA,0⟩] ag ar) (gs:=[]) (p:=p) (β:=β) (use:=use)
  (cJ:=λ D cenv=>do let _<-call (.builtin "list.append") [D,<-eval bP cenv])
  (Acc:=λ i g o=>∃ys k,o={cls:=.type "list",data:=.seq ys k}/\AllP g (((ai.take i).filter p).map R) ys.toList/\ys.size<=i)
  ok hs iG bl g8 ht ng rfl (λ s Q k=>?_) (λ le ⟨ys,k,h1,h2,h3⟩=>bW ys k h1 (h2.mono le) h3)
  (λ i hi g o hp ⟨ys,k,h1,h2,h3⟩=>bW ys k h1 (by rw [take_succ_filter p ai i ai[i] (by simp [hi]),hp];simpa using h2) (by w_up))
  (λ i hi hp S' cenv D s o cx Zt hD h1 h2 ho ha=>?_) (λ it D cenv=>by first|rfl|exact rfl) (λ ξ ξ ξ=>rfl) (λ ξ ξ ξ=>rfl) (λ ξ ξ ξ=>rfl) (λ it aO cenv R s h0 h=>codeAny_compStart_list h0 h) c λ D C s' k Zj Zw ne ξ hn hw=>?_
 ·refine wpAny_newObj_type ?_;exact k _ rfl λ g=>bW (#[]) 0 rfl trivial (Nat.zero_le _)
 ·refine bU ha λ ys kk rh o7 hsz=>?_;subst rh;unfold oh;refine Z4 ((ni _ (List.getElem_mem hi) hp).use cx λ y aj k₁ c₁ py=>?_);have vF:=kle k₁ _ _ ho;have zL:iV (ownOf ag) S' cenv aj.heap:=Zt.keep (λ o e=>kle k₁ _ _ e) λ ξ ξ ξ ξ o e=>kle k₁ _ _ e;refine Z4 (wpAny_list_append_plain (hsz:=by w_up) ⟨kk,vF⟩ λ qZ hl hs=>X5 ?_);refine aM hl λ m' hl=>?_;have aaH:abO S' aj {aj with heap:=qZ}:=(abO.set hs λ ξ ξ=>⟨_,hl⟩).more λ b hb=>by rw [bj hb];exact hD
  refine ph _ hl ⟨ys.push y,m',rfl,?_,by rw [Array.size_push];w_up⟩ ((abO.of k₁).trans aaH) (zL.keep (λ o e=>(hs.2 _ (Ne.symm h1)).trans e) (λ n ξ cc q o e=>(hs.2 _ λ z=>h2 n (z▸q)).trans e)) (λ b o n1 n2 ZV e=>(hs.2 b n1).trans (kle k₁ _ _ e));rw [take_succ_filter p ai i ai[i] (by simp [hi]),hp,if_pos rfl,List.map_append,Array.toList_push];exact ((o7.mono (aJ (kle k₁))).mono aaH.le).append ⟨(R _).mono aaH.le py,trivial⟩
 ·obtain ⟨o,ho,ys,kk,rfl,o7,_⟩:=hw;rw [List.take_length] at o7;exact hQ D C s' k Zj Zw ne hn ⟨D,ys,kk,rfl,ho,o7⟩
section
def et.le {n:Str} (x:et S aa h n P) (k:XN h h') (kk:XN (hide S h) (hide S' h')):et S' aa h' n P:=
 x.map (λ m v a b c=>bW m v (a.keeps k) b (P.mono kk c)) λ ξ c v a b d=>bW c v a (b.keeps k) (P.mono kk d)
def XK.grow (c:XK sc ρ S aa h) (le:XN h h') (fr:∀b∈S',b∈S\/h.get? b=none) (fx:∀b∈S',∃o,h'.get? b=some o):XK sc ρ S' aa h':=
 ⟨c.names,c.kind,c.glob,c.bi,λ n P e=>(c.vars n P e).le le (dH le fr),fx,c.top.mono (dH le fr)⟩
def XK.less (c:XK sc ρ S' aa h) (sub:∀b∈S,b∈S'):XK sc ρ S aa h:=
 ⟨c.names,c.kind,c.glob,c.bi,λ n P e=>(c.vars n P e).le (XN.refl _) (cT sub),λ b hb=>c.b4 b (sub b hb),c.top.mono (cT sub)⟩
def XK.sub (c:XK sc ρ S aa h) (x:∀n P,gy.lookup n=some P->ρ.lookup n=some P):XK sc gy S aa h:=
 ⟨c.names,c.kind,c.glob,c.bi,λ n P e=>c.vars n P (x n P e),c.b4,c.top⟩
def xW {ai:List ι} {abL:ι->YJ} {β:ι->eV} {p:ι->Bool} {R:ι->YJ}
  (ok:fS sc ρ ag) {Ok:Expr->Prop} (hs:jP A sc ρ aG ai abL Ok) (iG:∀aa x,foldedSetIterable aG aa x=pure x) (bl:ai.length<=sizeLine) (g8:Ok aN)
  (ht:∀a∈ai,jn A (cg sc ag.names) (ownOf ag) aN (abL a) (β a))
  (ng:∀a∈ai,lM A (cg sc ag.names) (β a++e7 ag ρ) bA (p a))
  (ni:∀a∈ai,p a=true->Ev A (cg sc ag.names) (β a++e7 ag ρ) bP (R a)):
  Ev A sc ρ (.ListComp bP [⟨aN,aG,bA,0⟩] ag ar) (cH ((ai.filter p).map R)):=λ S aa s c=>by
 rw [eval_ListComp];refine mn ok hs iG bl g8 ht ng ni c λ D C s' k Zj Zw ne hn hw=>?_;refine aM hn λ m hm=>?_;refine ⟨m,hm,λ h' gA=>⟨?_,?_⟩⟩
 ·refine bu k λ dg mq eL kk=>?_;subst eL;refine d8 h' mq rfl (λ b o e=>(gA.2 b ?_).trans (kk b o e));rintro rfl;rw [Zj] at e;cases e
 ·refine (cH _).mono ?_ hw;refine XN.trans (b5 (S:=C::S) λ b o hb e=>?_) (cT λ b hb=>Ym _ hb);exact (gA.2 b λ q=>hb (q▸di)).trans e
def cK [aaK α] {ai:List ι} {abL:ι->YJ} {β:ι->eV} {p:ι->Bool} {f:ι->α}
  (ok:fS sc ρ ag) {Ok:Expr->Prop} (hs:jP A sc ρ aG ai abL Ok) (iG:∀aa x,foldedSetIterable aG aa x=pure x) (bl:ai.length<=sizeLine) (g8:Ok aN)
  (ht:∀a∈ai,jn A (cg sc ag.names) (ownOf ag) aN (abL a) (β a))
  (ng:∀a∈ai,lM A (cg sc ag.names) (β a++e7 ag ρ) bA (p a))
  (ni:∀a∈ai,p a=true->Ev A (cg sc ag.names) (β a++e7 ag ρ) bP (is (f a))):
  Ev A sc ρ (.ListComp bP [⟨aN,aG,bA,0⟩] ag ar) (is ((ai.filter p).map f)):=
 (xW (R:=λ a=>is (f a)) ok hs iG bl g8 ht ng ni).imp λ ξ ξ q=>is_list.mpr (by rw [List.map_map];exact q)
structure XW where
 fp:List Addr
 p:Heap->Heap->Prop
 st:∀{g g' h h':Heap},XN g g'->XN g h->XN g' h'->(∀b∈fp,∀o,h.get? b=some o->h'.get? b=some o)->p g h->p g' h'
def Y8:XW:=⟨[],λ ξ ξ=>True,λ ξ ξ ξ ξ x=>x⟩
noncomputable instance:Nonempty XW:=⟨Y8⟩
noncomputable def XW.and (a b:XW):XW:=⟨a.fp++b.fp,λ g h=>a.p g h/\b.p g h,λ le l1 l2 k x=>⟨a.st le l1 l2 (λ d hd=>k d (bL _ hd)) x.1,b.st le l1 l2 (λ d hd=>k d (bC _ hd)) x.2⟩⟩
noncomputable def dc (a:Addr) (YN:List YJ):XW:=⟨[a],λ g h=>∃vs n,IsL h a vs n/\AllP g YN vs.toList,λ le ξ ξ k ⟨vs,n,x,y⟩=>d8 vs n (k a di _ x) (y.mono le)⟩
structure YQ (sc:ly) (ak:List Str) (F aw:List Addr) (az:Shared) (aa:Env) (ρ:eV) (J:XW) (S:List Addr) (s:Shared):Prop where
 cx:XK sc ρ S aa s.heap
 Zt:iV ak S aa s.heap
 aaH:abO F az s
 sub:∀b∈aw,b∈S
 new:∀b∈S,b∈aw\/az.heap.get? b=none
 loc:az.heap.get? aa.locals=none
 gb:∀n∈ak,∀b,aa.cells.lookup n=some b->az.heap.get? b=none
 cl:∀n b,aa.cells.lookup n=some b->∃o,s.heap.get? b=some o
 jp:J.p (hide S s.heap) s.heap
 aar:∀b∈J.fp,b∈S/\b≠aa.locals/\(∀n,aa.cells.lookup n≠some b)/\(b∈F\/az.heap.get? b=none)
variable {J aa_:XW}
def iV.le (x:iV ak S aa h) (k:XN h h'):iV ak S aa h':=x.keep (λ o e=>k _ o e) λ ξ ξ ξ ξ o e=>k _ o e
def YQ.keep (f:YQ sc ak F aw az aa ρ J S s) (k:Keeps s s'):YQ sc ak F aw az aa ρ J S s':=
 ⟨f.cx.mono (kle k),f.Zt.le (kle k),f.aaH.trans (abO.of k),f.sub,f.new,f.loc,f.gb,λ n b e=>let ⟨o,q⟩:=f.cl n b e;⟨o,kle k _ _ q⟩,J.st (aJ (kle k)) ao ao (λ b ξ o e=>kle k _ _ e) f.jp,f.aar⟩
def YQ.kept (f:YQ sc ak F aw az aa ρ J S s) (aaH:abO S s s') (c:XK sc gy S aa s'.heap) (o:iV ak S aa s'.heap) (k:kW ak aa s s'):YQ sc ak F aw az aa gy J S s' where
 cx:=c
 Zt:=o
 aaH:=by
  refine cS aaH.same λ h t e=>?_;refine cS f.aaH.same λ yF Fs iM=>?_;refine ⟨⟨h,t,by rw [e,iM]⟩,λ b o nb x=>?_,λ b o x=>let ⟨o',y⟩:=f.aaH.live b o x;aaH.live b o' y⟩;refine k b o (λ q=>?_) (λ n hn q=>?_) (f.aaH.keep b o nb x)
  ·rw [q,f.loc] at x;cases x
  ·rw [f.gb n hn b q] at x;cases x
 sub:=f.sub
 new:=f.new
 loc:=f.loc
 gb:=f.gb
 cl:=λ n b e=>let ⟨o,q⟩:=f.cl n b e;aaH.live b o q
 jp:=J.st aaH.le ao ao (λ b hb o e=>k b o (f.aar b hb).2.1 (λ n ξ=>(f.aar b hb).2.2.1 n) e) f.jp
 aar:=f.aar
def YQ.ek (f:YQ sc ak F aw az aa ρ J S s) (x:∀n P,gy.lookup n=some P->ρ.lookup n=some P):YQ sc ak F aw az aa gy J S s:=
 ⟨f.cx.sub x,f.Zt,f.aaH,f.sub,f.new,f.loc,f.gb,f.cl,f.jp,f.aar⟩
def XK.others {D:List Addr} (c:XK sc ρ S aa s.heap) (hs:∀b o,b∉D->s.heap.get? b=some o->h'.get? b=some o) (hb:∀b∈D,b∈S) (hl:∀b∈D,∃o,h'.get? b=some o) (h1:aa.locals∉D) (h2:∀n b,aa.cells.lookup n=some b->b∉D):XK sc ρ S aa h':=by
 have DB:abO S s {s with heap:=h',toks:=s.toks}:=⟨⟨_,_,rfl⟩,λ b o n e=>hs b o (λ m=>n (hb b m)) e,λ b o e=>by
  by_cases m:b∈D
  ·exact hl b m
  ·exact ⟨o,hs b o m e⟩⟩
 refine XK.aaH (s':={s with heap:=h',toks:=s.toks}) c DB λ n P e x=>?_;exact x.map (λ m v z q d=>cY z λ o es ep a r=>bW m v ⟨o,es,ep,hs _ _ h1 a,r⟩ q (P.mono DB.le d)) λ ξ c v a z d=>aK z λ o q r=>bW c v a ⟨o,hs _ _ (h2 _ _ a) q,r⟩ (P.mono DB.le d)
def YQ.Bl {D:List Addr} (f:YQ sc ak F aw az aa ρ J S s) (hb:∀b∈D,b∈J.fp) (hs:∀b o,b∉D->s.heap.get? b=some o->h'.get? b=some o) (hl:∀b∈D,∃o,h'.get? b=some o)
  (hj:aa_.p (hide S h') h') (hf:∀d∈aa_.fp,d∈J.fp):YQ sc ak F aw az aa ρ aa_ S {s with heap:=h',toks:=tk} where
 cx:=f.cx.others hs (λ b m=>(f.aar b (hb b m)).1) hl (λ m=>(f.aar _ (hb _ m)).2.1 rfl) λ n b e m=>(f.aar b (hb b m)).2.2.1 n e
 Zt:=f.Zt.keep (λ o e=>hs _ o (λ m=>(f.aar _ (hb _ m)).2.1 rfl) e) λ n ξ c q o e=>hs _ o (λ m=>(f.aar _ (hb _ m)).2.2.1 n q) e
 aaH:=by
  refine cS f.aaH.same λ yF Fs iM=>?_;refine ⟨⟨h',tk,by rw [iM]⟩,λ d o nd x=>?_,λ d o x=>?_⟩
  ·refine hs d o (λ m=>?_) (f.aaH.keep d o nd x);rcases (f.aar d (hb d m)).2.2.2 with z|z
   ·exact nd z
   ·rw [x] at z;cases z
  ·by_cases m:d∈D
   ·exact hl d m
   ·refine aM (f.aaH.live d o x) λ o' y=>?_;exact ⟨o',hs d o' m y⟩
 sub:=f.sub
 new:=f.new
 loc:=f.loc
 gb:=f.gb
 cl:=λ n c e=>let ⟨o,q⟩:=f.cl n c e;⟨o,hs c o (λ m=>(f.aar c (hb c m)).2.2.1 n e) q⟩
 jp:=hj
 aar:=λ d hd=>f.aar d (hf d hd)
def YQ.mut (f:YQ sc ak F aw az aa ρ J S s) (hb:b∈J.fp) (hs:Heap.SameBut b s.heap h') (hl:∃o,h'.get? b=some o)
  (hj:aa_.p (hide S h') h') (hf:∀d∈aa_.fp,d∈J.fp):YQ sc ak F aw az aa ρ aa_ S {s with heap:=h',toks:=tk}:=
 f.Bl (D:=[b]) (λ d m=>by rw [bj m];exact hb) (λ d o n e=>(hs.2 d λ q=>n (List.mem_singleton.mpr q)).trans e) (λ d m=>by rw [bj m];exact hl) hj hf
def YQ.yG {D:List Addr} (f:YQ sc ak F aw az aa ρ J S s) (k:Keeps s s') (hn:∀b∈D,s.heap.get? b=none) (hl:∀b∈D,∃o,s'.heap.get? b=some o) {K:XW} (hK:∀b∈K.fp,b∈D) (hp:K.p (hide (D++S) s'.heap) s'.heap):
  YQ sc ak F aw az aa ρ (K.and J) (D++S) s':=by
 have fresh:∀b∈D++S,b∈S\/s.heap.get? b=none:=λ b hb=>by
  rcases bR hb with hb|hb
  ·exact .inr (hn b hb)
  ·exact .inl hb
 have mT:∀b,s.heap.get? b=none->az.heap.get? b=none:=λ b h=>by
  cases e:az.heap.get? b with
  |none=>rfl
  |some o=>refine aM (f.aaH.live _ _ e) λ o' z=>?_;rw [h] at z;cases z
 exact {
  cx:=f.cx.grow (kle k) fresh λ b hb=>by
   rcases bR hb with hb|hb
   ·exact hl b hb
   ·refine aM (f.cx.b4 b hb) λ o e=>?_;exact ⟨o,kle k _ _ e⟩
  Zt:=let o:=f.Zt.le (kle k);⟨bC _ o.loc,o.ns,λ n hn q=>let ⟨c,v,a,b,d⟩:=o.gb n hn q;⟨c,v,a,bC _ b,d⟩,o.inj⟩
  aaH:=f.aaH.trans (abO.of k)
  sub:=λ b hb=>bC _ (f.sub b hb)
  new:=λ b hb=>by
   rcases bR hb with hb|hb
   ·exact .inr (mT b (hn b hb))
   ·exact f.new b hb
  loc:=f.loc
  gb:=f.gb
  cl:=λ n b e=>let ⟨o,q⟩:=f.cl n b e;⟨o,kle k _ _ q⟩
  jp:=⟨hp,J.st (dH (kle k) fresh) ao ao (λ b ξ o e=>kle k _ _ e) f.jp⟩
  aar:=λ b hb=>by
   rcases bR hb with hb|hb
   ·have hb:=hK b hb;refine iD (bL _ hb) (λ q=>?_) (λ n q=>?_) (.inr (mT b (hn b hb)))
    ·refine aM f.Zt.ns λ m l6=>?_;refine cY l6 λ o ξ ξ e ξ=>?_;rw [<-q,hn b hb] at e;cases e
    ·refine aM (f.cl n b q) λ o e=>?_;rw [hn b hb] at e;cases e
   ·refine jw (f.aar b hb) λ a1 a2 a3 a4=>?_;exact ⟨bC _ a1,a2,a3,a4⟩}
def YQ.lay (f:YQ sc ak F aw az aa ρ J S s) (k:Keeps s s') (hn:s.heap.get? D=none) (hl:∃o,s'.heap.get? D=some o) {K:XW} (hK:∀b∈K.fp,b=D) (hp:K.p (hide (D::S) s'.heap) s'.heap):
  YQ sc ak F aw az aa ρ (K.and J) (D::S) s':=
 f.yG (D:=[D]) k (λ b m=>by rw [bj m];exact hn) (λ b m=>by rw [bj m];exact hl) (λ b m=>List.mem_singleton.mpr (hK b m)) hp
def YQ.shrink (f:YQ sc ak F aw az aa ρ J S' s) (sub:∀b∈S,b∈S') (h0:∀b∈aw,b∈S) (hl:aa.locals∈S) (hc:∀n∈ak,aa.kindOf n=some .cell->∀b,aa.cells.lookup n=some b->b∈S)
  (hj:aa_.p (hide S' s.heap) s.heap) (hf:∀b∈aa_.fp,b∈J.fp/\b∈S):YQ sc ak F aw az aa ρ aa_ S s where
 cx:=f.cx.less sub
 Zt:=⟨hl,f.Zt.ns,λ n hn k=>jR (f.Zt.gb n hn k) λ c v a ξ d e=>⟨c,v,a,hc n hn k c a,d,e⟩,f.Zt.inj⟩
 aaH:=f.aaH
 sub:=h0
 new:=λ b hb=>f.new b (sub b hb)
 loc:=f.loc
 gb:=f.gb
 cl:=f.cl
 jp:=aa_.st (cT sub) ao ao (λ ξ ξ ξ e=>e) hj
 aar:=λ b hb=>⟨(hf b hb).2,(f.aar b (hf b hb).1).2⟩
def aU (f:YQ sc ak F aw az aa ρ J S s) (he:Ev A sc ρ e P) (hx:cw ak sc z=true) (hs:∀aa:Env,aa.scope.kind= .function->aa.scope.names=sc->swapsWith e (some (.Name z YA)) ar.line aa=pure false)
  (k:∀s',YQ sc ak F aw az aa ((z,P)::ρ) J S s'->wpAny (model XX w) A (execs aD aa) Q E s'):wpAny (model XX w) A (execs (.Assign [.Name z YA] e ar::aD) aa) Q E s:=
 YF (wpAny_Assign_Name (hs:=hs aa f.cx.kind f.cx.names) (he.use f.cx λ v aj k₁ c₁ aZ=>gO c₁ (f.keep k₁).Zt hx aZ λ aA a b d g=>k aA ((f.keep k₁).kept a b d g)))
def Ln {n:Str} (hl:ρ.lookup n=some P) (hk:sc.lookup n=some .local\/sc.lookup n=some .cell\/sc.lookup n=some .free)
  (lS:(n==("__classdict__":Str))=false) (c:XK sc ρ S aa s.heap):wpAny (model XX w) A (loadName aa n) (End S P s) dj s:=by
 have x:=c.vars n P hl;have Y4:=c.kindOf n;unfold et at x;rcases hk with hk|hk|hk
 ·rw [hk] at Y4;rw [Y4] at x;refine bU x λ m v a b d=>?_;exact wpAny_loadName_local c.kind Y4 a b ⟨cB _,d⟩
 ·rw [hk] at Y4;rw [Y4] at x;refine bU x λ m v a b d=>?_;exact wpAny_loadName_cell c.kind Y4 a b ⟨cB _,d⟩
 ·rw [hk] at Y4;rw [Y4] at x;refine bU x λ m v a b d=>?_;exact wpAny_loadName_free c.kind Y4 a b ⟨cB _,d⟩ lS
def Ih {op:Operator} (f:YQ sc ak F aw az aa ρ J S s) (hl:ρ.lookup z=some aV) (hk:sc.lookup z=some .local\/sc.lookup z=some .cell\/sc.lookup z=some .free)
  (lS:(z==("__classdict__":Str))=false) (he:Ev A sc ρ e a6) (ho:fm A (inplaceOp op) aV a6 P) (hx:cw ak sc z=true)
  (k:∀s',YQ sc ak F aw az aa ((z,P)::ρ) J S s'->wpAny (model XX w) A (execs aD aa) Q E s'):wpAny (model XX w) A (execs (.AugAssign (.Name z YA) op e ar::aD) aa) Q E s:=by
 refine YF (wpAny_AugAssign_Name ?_);refine Zh (Ln hl hk lS f.cx) (λ a aj q=>?_) eY;refine he.use (f.cx.mono (kle q.1)) λ b aA k₂ c₂ cG=>?_;refine Zh (ho S aA a b c₂.top c₂.b4 (aV.mono (aJ (kle k₂)) q.2) cG) (λ v aH tZ=>?_) eY;exact gO (c₂.mono (kle tZ.1)) (f.keep (aL (aL q.1 k₂) tZ.1)).Zt hx tZ.2 λ bS a b d g=>k bS ((f.keep (aL (aL q.1 k₂) tZ.1)).kept a b d g)
def vG {β:eV} (f:YQ sc ak F aw az aa ρ J S s) (he:Ev A sc ρ e W) (ht:jn A sc ak (.Tuple es kk tp) W β)
  (hs:swapsWithSole [.Tuple es kk tp] e ar.line aa=pure false) (hw:swappedStores [.Tuple es kk tp] e aa=pure none)
  (k:∀s',YQ sc ak F aw az aa (β++ρ) J S s'->wpAny (model XX w) A (execs aD aa) Q E s'):wpAny (model XX w) A (execs (.Assign [.Tuple es kk tp] e ar::aD) aa) Q E s:=
 YF (Assign_Tuple (hs:=hs) (hw:=hw) (he.use f.cx λ v aj k₁ c₁ aZ=>ht ρ S aa aj v _ _ c₁ (f.keep k₁).Zt aZ λ aA a b d g=>k aA ((f.keep k₁).kept a b d g)))
def dO (f:YQ sc ak F aw az aa ρ J S s) (he:Ev A sc ρ e P) (k:∀v s',YQ sc ak F aw az aa ρ J S s'->P.p (hide S s'.heap) v->Q (.ret v) s'):
  wpAny (model XX w) A (execs (.Return (some e) ar::aD) aa) Q E s:=
 YF (wpAny_Return_some (he.use f.cx λ v aj k₁ c₁ aZ=>k v aj (f.keep k₁) aZ))
def Yj {m:Sem α} {Nt:α->Shared->Prop} (h:∀Q:α->Shared->Prop,(∀v s,Nt v s->Q v s)->wpAny (model XX w) A m Q E s):wpAny (model XX w) A m Nt E s:=h _ dp
abbrev rn (A:Around) (aa:Env) (aD:List Stmt) (Q:Flow->Shared->Prop) (E:Value->Shared->Prop):Flow->Shared->Prop:=λ fl s=>match fl with| .next=>wpAny (model XX w) A (execs aD aa) Q E s|fl=>Q fl s
def f6 {b:Bool} (f:YQ sc ak F aw az aa ρ J S s) (t:te A sc ρ e b)
  (h1:b=true->∀s',YQ sc ak F aw az aa ρ J S s'->wpAny (model XX w) A (execs bM aa) (rn A aa aD Q E) E s')
  (h2:b=false->∀s',YQ sc ak F aw az aa ρ J S s'->wpAny (model XX w) A (execs orelse aa) (rn A aa aD Q E) E s'):
  wpAny (model XX w) A (execs (.If e bM orelse ar::aD) aa) Q E s:=
 YF (wpAny_If (t.use f.cx λ aj k₁ c₁=>by
  cases b with
  |true=>exact h1 rfl aj (f.keep k₁)
  |false=>exact h2 rfl aj (f.keep k₁)))
def bf (h:Q .next s):wpAny (model XX w) A (execs [] aa) Q E s:=wpAny_execs_nil h
end
variable {J aa_ jT K L gS O T:XW}
def Zc (h:Heap):List (Str×Value)->eV->Prop
 |[],[]=>True
 |(n,v)::b,(m,P)::ρ=>n=m/\P.p h v/\Zc h b ρ
 |_,_=>False
def Zc.mem:∀{b:List (Str×Value)} {ρ:eV},Zc h b ρ->∀n P,ρ.lookup n=some P->∃v,(n,v)∈b/\P.p h v:=by
 intro b;induction b with
 |nil=>
  intro Z2;cases Z2 with
  |nil=>intro _ n P e;simp at e
  |cons _ _=>intros;exact False.elim (by assumption)
 |cons aa8 b ih=>
  intro Z2;cases Z2 with
  |nil=>intros;exact False.elim (by assumption)
  |cons Z2 ρ=>
   obtain ⟨n',v⟩:=aa8;obtain ⟨m,Q⟩:=Z2;intro Ii n P e;obtain ⟨e1,e2,e3⟩:=Ii;subst e1;rw [List.lookup_cons] at e;by_cases q:n=n'
   ·subst q;rw [beq_self_eq_true] at e;cases e;exact cV v di e2
   ·rw [beq_eq_false_iff_ne.mpr q] at e;refine aK (ih e3 n P e) λ u h1 h2=>?_;exact cV u (Ym _ h1) h2
theorem vH {k:Str->Option NameKind}:∀{b:List (Str×Value)} {m:Str->Option Value} {n:Str},n∉b.map (·.1)->bindL k b m n=m n
 |[],_,_,_=>rfl
 |(a,v)::b,m,n,h=>by
  rw [List.map_cons,List.mem_cons,not_or] at h;unfold bindL;rw [vH h.2];split
  ·exact if_neg h.1
  ·rfl
theorem vI {k:Str->Option NameKind}:∀{b:List (Str×Value)} {m:Str->Option Value} {n:Str},n∉b.map (·.1)->bindC k b m n=m n
 |[],_,_,_=>rfl
 |(a,v)::b,m,n,h=>by
  rw [List.map_cons,List.mem_cons,not_or] at h;unfold bindC;rw [vI h.2];split
  ·rfl
  ·exact if_neg h.1
def DC {k:Str->Option NameKind}:∀{b:List (Str×Value)} {m:Str->Option Value} {n:Str} {v:Value},(b.map (·.1)).Nodup->(n,v)∈b->k n=some .local->bindL k b m n=some v:=by
 intro b;induction b with
 |nil=>intros;contradiction
 |cons aa8 b ih=>
  intro m n v hn h hk;obtain ⟨a,u⟩:=aa8;rw [List.map_cons,List.nodup_cons] at hn;unfold bindL;rcases cF h with e|h
  ·cases e;rw [vH hn.1,if_pos hk,if_pos rfl]
  ·exact ih hn.2 h hk
def DD {k:Str->Option NameKind}:∀{b:List (Str×Value)} {m:Str->Option Value} {n:Str} {v:Value},(b.map (·.1)).Nodup->(n,v)∈b->k n≠some .local->bindC k b m n=some v:=by
 intro b;induction b with
 |nil=>intros;contradiction
 |cons aa8 b ih=>
  intro m n v hn h hk;obtain ⟨a,u⟩:=aa8;rw [List.map_cons,List.nodup_cons] at hn;unfold bindC;rcases cF h with e|h
  ·cases e;rw [vI hn.1,if_neg hk,if_pos rfl]
  ·exact ih hn.2 h hk
noncomputable def tq:Flow->Value
 | .ret v=>v
 |_=>.none
structure vJ (fd:FuncData) (bM:List Stmt):Prop where
 body:fd.body= .stmts bM
 UI:fd.closure=[]
 glob:fd.globals=mainGlobals
 bi:fd.builtins=builtinsNs
 co:fd.scope.isCoroutine=false
 gen:fd.scope.isGenerator=false
 kind:fd.scope.kind= .function
 nodup:(fd.scope.names.map (·.1)).Nodup
def ro (code:Value) (qual:Str):Prop:=∃c oc vs aac,code= .ref c/\(KK w.params).lookup c=some oc/\oc.data= .fields vs/\vs[1]? =some (.str qual aac)
def ro.rec {code:Value} {qual:Str} (c:ro code qual) (T:er h):h.CodeRec code qual:=by obtain ⟨c,oc,vs,aac,e,hk,hd,hv⟩:=c;exact ⟨c,oc,vs,aac,e,T.k _ _ hk,hd,hv⟩
def kY {o:Obj} {R:Result->Shared->Prop}
  (T:er (hide aw s.heap)) (fr:∀b∈aw,∃o,s.heap.get? b=some o) (hA:A.depth<recursionLimit)
  (ho:s.heap.get? a=some o) (hd:o.data= .func fd) (ok:vJ fd bM) (hc:ro fd.code fd.qualname)
  (ns:List Str) (hb:∀(A:Around) (Q:List (Str×Value)->Shared->Prop) (E:Value->Shared->Prop),(∀c5 aj,Keeps s aj->c5.map (·.1)=ns->Zc (hide aw aj.heap) c5 ρ->Q c5 aj)->wpAny (model XX w) A (bindArgs fd ⟨vs,kw⟩) Q E s)
  (gp:ns.Nodup) (uA:∀x∈ns,fd.scope.names.lookup x=some .local\/fd.scope.names.lookup x=some .cell)
  (hJ:J.p (hide aw s.heap) s.heap) (hF:∀b∈J.fp,b∈aw/\b∈F)
  (h:∀aa S s',aa.code=fd.code->aa.qual=fd.qualname++".<locals>."->aa.frame=some aa.locals->YQ fd.scope.names (ownOf fd.scope) F aw s aa ρ J S s'->wpAny (model XX w) (A.deeper aa) (execs bM aa) (λ fl gh=>R (.ok (.ret (tq fl))) gh) (λ e gh=>wpAny (model XX w) (A.deeper aa) (leaving aa e) (λ ξ aH=>R (.error e) aH) (λ e' aH=>R (.error e') aH) gh) s'):
  codeAny (model XX w) A (.call (.ref a) ⟨vs,kw⟩) R s:=by
 refine qB T.t λ Nu Nv Nx mg mb Ij ξ=>?_;have Ik:s.heap.NoLimit:=(topRead_of Ij).nolimit.keeps ao;refine codeAny_call_function hA ho hd ok.co ok.gen ok.body ((hc.rec T).keeps ao) (hb _ _ _ λ c5 gT Ft nj hw=>?_);have gp:(c5.map (·.1)).Nodup:=by rw [nj];exact gp
 have uA:∀x∈c5,fd.scope.names.lookup x.1=some .local\/fd.scope.names.lookup x.1=some .cell:=λ x hx=>uA x.1 (by rw [<-nj];exact List.mem_map.mpr ⟨x,hx,rfl⟩);have om:XN s.heap gT.heap:=kle Ft;have Il:∀b∈aw,∃o,gT.heap.get? b=some o:=λ b hb=>let ⟨o,e⟩:=fr b hb;⟨o,om _ _ e⟩;have Q3:er (hide aw gT.heap):=T.mono (aJ om);have vK:∀b,gT.heap.get? b=none->s.heap.get? b=none:=λ b h=>by
  cases e:s.heap.get? b with
  |none=>rfl
  |some o=>rw [om _ _ e] at h;cases h
 rw [ok.UI];refine wpAny_newFunctionEnv_cells ok.kind (λ x hx=>?_) λ aa he aj x=>?_
 ·rcases uA x hx with q|q
  ·exact .inl q
  ·refine aM (gn fd.scope.names (gT.heap.objs.size+1) x.1 (mem_of_lookup q)) λ c e=>?_;exact .inr ⟨q,by rw [e];rfl⟩
 have ir:aa.locals=gT.heap.objs.size:=by rw [he];rfl
 have iX:aa.cells=cellsFrom (gT.heap.objs.size+1) fd.scope.names []:=by rw [he];rfl
 have Bm:aa.scope=fd.scope:=by rw [he];rfl
 have Gw:∀n,aa.kindOf n=fd.scope.names.lookup n:=λ n=>by rw [Env.kindOf,Bm]
 have Ol:=x.toInCall.keep;have hle:XN gT.heap aj.heap:=Ol;have r6:∀n b,aa.cells.lookup n=some b->gT.heap.get? b=none:=λ n b e=>by have h1:@LT.lt Nat _ aa.locals b:=x.above n b (mem_of_lookup e);refine get_none (Nat.le_of_lt ?_);rw [ir] at h1;exact h1
 have hL:gT.heap.get? aa.locals=none:=by rw [ir];exact get_none (Nat.le_refl _)
 have fresh:∀b∈(aa.locals::aa.cells.map (·.2)++aw),b∈aw\/gT.heap.get? b=none:=λ b hb=>by
  rcases bR hb with hb|hb
  ·rcases cF hb with rfl|hb
   ·exact .inr hL
   ·refine aK (abQ hb) λ p hp ff=>?_;subst ff;have h1:@LT.lt Nat _ aa.locals p.2:=x.above p.1 p.2 hp;rw [ir] at h1;exact .inr (get_none (Nat.le_of_lt h1))
  ·exact .inl hb
 have fx:∀b∈(aa.locals::aa.cells.map (·.2)++aw),∃o,aj.heap.get? b=some o:=λ b hb=>by
  rcases bR hb with hb|hb
  ·rcases cF hb with rfl|hb
   ·refine cY x.toInCall.ns λ o ξ ξ e ξ=>?_;exact ⟨o,e⟩
   ·rw [iX] at hb;refine aK (abQ hb) λ p hp eK=>?_;subst eK;have hm:=mf _ _ p.1 p.2 hp;refine aM (gn fd.scope.names (gT.heap.objs.size+1) p.1 hm) λ c' e'=>?_;have A9:=cellsFrom_ok fd.scope.names (gT.heap.push {cls:=.type "frame",data:=.dict #[]}) (gT.heap.objs.size+1) [] ⟨λ ξ ξ hm=>(nomatch hm),List.Pairwise.nil⟩ (by rw [Heap.size_push];exact Nat.le_refl _);rw [Heap.size_push] at A9;have xX:((cellsFrom (gT.heap.objs.size+1) fd.scope.names []).map (·.1)).Nodup:=by
     have a8:∀(names:List (Str×NameKind)) (k:Nat),(names.map (·.1)).Nodup->((cellsFrom k names []).map (·.1)).Nodup:=by
      intro names;induction names with
      |nil=>intro k _;simp [cellsFrom]
      |cons y r ih=>
       intro k hn;obtain ⟨m,kd⟩:=y;rw [List.map_cons,List.nodup_cons] at hn;unfold cellsFrom;split
       ·rw [eu,List.map_append,List.nodup_append];refine iJ (ih _ hn.2) (by simp) (λ a ha b hb=>?_);rintro rfl;refine aK (abQ ha) λ p hp il=>?_;subst il;have lB:p.1=m:=by simpa using hb
        exact hn.1 (List.mem_map.mpr ⟨_,mf _ _ p.1 p.2 hp,lB⟩)
       ·exact ih _ hn.2
     exact a8 _ _ ok.nodup
    refine aK (x.cell p.1 p.2 (by rw [iX];exact lookup_mem xX hp)) λ o e ξ=>?_;exact ⟨o,e⟩
  ·refine aM (Il b hb) λ o e=>?_;exact ⟨o,hle _ _ e⟩
 have grow:XN (hide aw gT.heap) (hide (aa.locals::aa.cells.map (·.2)++aw) aj.heap):=dH hle fresh;refine bu x.done λ hh tk pL ξ=>?_;refine ⟨(Ik.keeps om).keeps hle,codeAny_func (h aa (aa.locals::aa.cells.map (·.2)++aw) aj (by rw [he];rfl) (by rw [he];rfl) (by rw [he];rfl) ⟨⟨?_,?_,?_,?_,?_,fx,Q3.mono grow⟩,⟨?_,⟨_,x.toInCall.ns⟩,?_,?_⟩,?_,?_,λ b hb=>(fresh b hb).imp id (vK b),vK _ hL,λ n ξ b e=>vK _ (r6 n b e),?_,?_,?_⟩)⟩
 ·rw [Bm]
 ·rw [Bm];exact ok.kind
 ·rw [he];exact ok.glob
 ·rw [he];exact ok.bi
 ·intro n P e;refine aK (hw.mem n P e) λ v hv hp=>?_;unfold et;rw [Gw];rcases uA _ hv with q|q
  ·rw [q];refine bW _ v x.toInCall.ns (DC gp hv ?_) (P.mono grow hp);rw [Gw];exact q
  ·rw [q];refine aM (gn fd.scope.names (gT.heap.objs.size+1) n (mem_of_lookup q)) λ c hc=>?_;rw [<-iX] at hc;refine bW c v hc ?_ (P.mono grow hp);have:=x.cell n c hc;rwa [DD gp hv (by rw [Gw,q];decide)] at this
 ·exact bL _ di
 ·intro n hn hk;rw [Gw] at hk;refine aM (gn fd.scope.names (gT.heap.objs.size+1) n (mem_of_lookup hk)) λ c hc=>?_;rw [<-iX] at hc;exact jl c _ hc (bL _ (Ym _ (List.mem_map.mpr ⟨_,mem_of_lookup hc,rfl⟩))) (x.cell n c hc) (Nat.ne_of_gt (x.above n c (mem_of_lookup hc)))
 ·intro n hn hk n' c h1 h2;exact name_of_addr x.apart (mem_of_lookup h1) (mem_of_lookup h2)
 ·exact (abO.of Ft).trans ⟨⟨hh,tk,pL⟩,λ b o ξ e=>hle b o e,λ b o e=>⟨o,hle b o e⟩⟩
 ·exact λ b hb=>bC _ hb
 ·intro n b e;refine aK (x.cell n b e) λ o q ξ=>?_;exact ⟨o,q⟩
 ·exact J.st ((aJ om).trans grow) ao ao (λ b ξ o e=>hle b o (om _ _ e)) hJ
 ·intro b hb;refine cO (hF b hb) λ h1 h2=>?_;refine aM (Il b h1) λ o q=>?_;refine iD (bC _ h1) (λ e=>?_) (λ n e=>?_) (.inl h2)
  ·rw [e,hL] at q;cases q
  ·rw [r6 n b e] at q;cases q
def rq {o:Obj} {Q:Value->Shared->Prop}
  (T:er (hide aw s.heap)) (fr:∀b∈aw,∃o,s.heap.get? b=some o) (hA:A.depth<recursionLimit)
  (ho:s.heap.get? a=some o) (hd:o.data= .func fd) (ok:vJ fd bM) (hc:ro fd.code fd.qualname)
  (ns:List Str) (hb:∀(A:Around) (Q:List (Str×Value)->Shared->Prop) (E:Value->Shared->Prop),(∀c5 aj,Keeps s aj->c5.map (·.1)=ns->Zc (hide aw aj.heap) c5 ρ->Q c5 aj)->wpAny (model XX w) A (bindArgs fd ⟨vs,kw⟩) Q E s)
  (gp:ns.Nodup) (uA:∀x∈ns,fd.scope.names.lookup x=some .local\/fd.scope.names.lookup x=some .cell)
  (hJ:J.p (hide aw s.heap) s.heap) (hF:∀b∈J.fp,b∈aw/\b∈F)
  (h:∀aa S s',aa.code=fd.code->aa.qual=fd.qualname++".<locals>."->aa.frame=some aa.locals->YQ fd.scope.names (ownOf fd.scope) F aw s aa ρ J S s'->wpAny (model XX w) (A.deeper aa) (execs bM aa) (λ fl gh=>Q (tq fl) gh) (λ e gh=>wpAny (model XX w) (A.deeper aa) (leaving aa e) (λ ξ aH=>E e aH) (λ e' aH=>E e' aH) gh) s'):
  wpAny (model XX w) A (call (.ref a) vs kw) Q E s:=
 wpAny_call (kY T fr hA ho hd ok hc ns hb gp uA hJ hF h)
def Gx {o:Obj} {Q:Value->Shared->Prop}
  (T:er (hide aw s.heap)) (fr:∀b∈aw,∃o,s.heap.get? b=some o) (hA:A.depth<recursionLimit)
  (ho:s.heap.get? a=some o) (hd:o.data= .func fd) (ok:vJ fd bM) (hc:ro fd.code fd.qualname)
  (ns:List Str) (hb:∀(A:Around) (Q:List (Str×Value)->Shared->Prop) (E:Value->Shared->Prop),(∀c5 aj,Keeps s aj->c5.map (·.1)=ns->Zc (hide aw aj.heap) c5 ρ->Q c5 aj)->wpAny (model XX w) A (bindArgs fd ⟨vs,kw⟩) Q E s)
  (gp:ns.Nodup) (uA:∀x∈ns,fd.scope.names.lookup x=some .local\/fd.scope.names.lookup x=some .cell)
  (hJ:J.p (hide aw s.heap) s.heap) (hF:∀b∈J.fp,b∈aw/\b∈F)
  (h:∀aa S s',YQ fd.scope.names (ownOf fd.scope) F aw s aa ρ J S s'->wpAny (model XX w) (A.deeper aa) (execs bM aa) (λ fl gh=>Q (tq fl) gh) (λ e gh=>wpAny (model XX w) (A.deeper aa) (leaving aa e) (λ ξ aH=>E e aH) (λ e' aH=>E e' aH) gh) s'):
  wpAny (model XX w) A (call (.ref a) vs kw) Q E s:=
 rq T fr hA ho hd ok hc ns hb gp uA hJ hF λ aa S s' ξ ξ ξ f=>h aa S s' f
def Zc.names {b:List (Str×Value)} (x:Zc h b ρ):b.map (·.1)=ρ.map (·.1):=by
 induction b generalizing ρ with
 |nil=>cases ρ with
  |nil=>rfl
  |cons _ _=>exact x.elim
 |cons p _ ih=>cases ρ with
  |nil=>exact x.elim
  |cons q _=>rw [List.map_cons,List.map_cons,ih x.2.2,show p.1=q.1 from x.1]
def kH (fd:FuncData) (YN:List YJ) (ρ:eV):Prop:=
 ∀S (s:Shared) vs (A:Around) (Q:List (Str×Value)->Shared->Prop) (E:Value->Shared->Prop),(∀b∈S,∃o,s.heap.get? b=some o)->AllP (hide S s.heap) YN vs->(∀c5 aj,Keeps s aj->Zc (hide S aj.heap) c5 ρ->Q c5 aj)->
  wpAny (model XX w) A (bindArgs fd ⟨vs,[]⟩) Q E s
def pM (hb:∀(s:Shared) vs,vs.length=YN.length->∃c5,BindsTo s fd ⟨vs,[]⟩ c5/\(∀h,AllP h YN vs->Zc h c5 ρ)):kH fd YN ρ:=λ S s vs A Q E ξ p k=>by refine aK (hb s vs p.length) λ c5 h1 h2=>?_;exact h1 _ _ _ _ (k c5 s (cB _) (h2 _ p))
def kI {o:Obj} {Q:Value->Shared->Prop}
  (T:er (hide aw s.heap)) (fr:∀b∈aw,∃o,s.heap.get? b=some o) (abx:cy (n+1) A) (p:AllP (hide aw s.heap) YN vs)
  (hk:(KK w.params).lookup a=some o) (hd:o.data= .func fd) (ok:vJ fd bM) (hc:ro fd.code fd.qualname) (ns:List Str) (hb:kH fd YN ρ) (nj:ρ.map (·.1)=ns)
  (gp:ns.Nodup) (uA:∀x∈ns,fd.scope.names.lookup x=some .local\/fd.scope.names.lookup x=some .cell)
  (hJ:J.p (hide aw s.heap) s.heap) (hF:∀b∈J.fp,b∈aw/\b∈F)
  (h:∀(A':Around) (Q':Value->Shared->Prop) (aa:Env) S s',cy n A'->A'.frames=A.frames.map (λ fs=>aa::fs)->(∀v s,Q v s->Q' v s)->aa.code=fd.code->aa.qual=fd.qualname++".<locals>."->aa.frame=some aa.locals->YQ fd.scope.names (ownOf fd.scope) F aw s aa ρ J S s'->wpAny (model XX w) A' (execs bM aa) (λ fl gh=>Q' (tq fl) gh) dj s'):
  wpAny (model XX w) A (call (.ref a) vs []) Q E s:=
 rq T fr (by have:=abx.depth;show A.depth<1000;w_up) (ao _ _ (T.k a _ hk)) hd ok hc ns (λ A Q E k=>hb aw s vs A Q E fr p λ b aj k₁ kZ=>k b aj k₁ (by rw [Zc.names kZ,nj]) kZ) gp uA hJ hF λ aa S s' h1 h2 h3 f=>
  Zh (h (A.deeper aa) Q aa S s' (abx.deeper aa) rfl dp h1 h2 h3 f) dp eY
def ju {o:Obj} (hk:(KK w.params).lookup a=some o) (hd:o.data= .func fd) (ok:vJ fd bM) (hc:ro fd.code fd.qualname) (abx:cy (n+1) A)
  (hb:kH fd YN ρ)
  (ns:List Str) (nj:ρ.map (·.1)=ns) (gp:ns.Nodup) (uA:∀x∈ns,fd.scope.names.lookup x=some .local\/fd.scope.names.lookup x=some .cell)
  (h:∀aw az aa S s' A,cy n A->YQ fd.scope.names (ownOf fd.scope) [] aw az aa ρ Y8 S s'->wpAny (model XX w) A (execs bM aa) (λ fl gh=>Keeps az gh/\P.p (hide aw gh.heap) (tq fl)) dj s'):
  fJ A (.ref a) YN P:=λ S s vs T fr p=>by
 refine Gx (J:=Y8) (F:=[]) T fr (by have:=abx.depth;show A.depth<1000;w_up) (ao _ _ (T.k _ _ hk)) hd ok hc ns (λ A Q E k=>hb S s vs A Q E fr p λ b aj k₁ kZ=>k b aj k₁ (by rw [Zc.names kZ,nj]) kZ) gp uA trivial (λ ξ hb=>nomatch hb) λ aa S' s' f=>?_
 ·exact Zh (h S s aa S' s' _ (abx.deeper aa) f) (λ fl gh q=>q) eY
def YQ.gc {F:List Addr} (f:YQ sc ak [] aw az aa ρ J S s) (p:P.p (hide S s.heap) v):Keeps az s/\P.p (hide aw s.heap) v:=by refine cS f.aaH.same λ h t e=>?_;exact ⟨⟨h,t,e,λ b o x=>by have:=f.aaH.keep b o (λ m=>nomatch m) x;rw [e] at this;exact this⟩,P.mono (cT f.sub) p⟩
def AllP.no (p:AllP h [] vs):vs=[]:=by
 cases vs with
 |nil=>rfl
 |cons v us=>exact p.elim
def AllP.one (p:AllP h [P] vs):∃v,vs=[v]/\P.p h v:=by
 cases vs with
 |nil=>exact p.elim
 |cons v us=>exact cV v (by rw [AllP.no p.2]) p.1
def AllP.two (p:AllP h [aV,a6] vs):∃v u,vs=[v,u]/\aV.p h v/\a6.p h u:=by
 cases vs with
 |nil=>exact p.elim
 |cons v us=>exact aK p.2.one λ u e q=>bW v u (by rw [e]) p.1 q
def AllP.three (p:AllP h [P,aV,a6] vs):∃z v u,vs=[z,v,u]/\P.p h z/\aV.p h v/\a6.p h u:=by
 cases vs with
 |nil=>exact p.elim
 |cons z us=>exact bU p.2.two λ v u e q r=>⟨z,v,u,by rw [e],p.1,q,r⟩
def sj {o:Obj} {c:String} (ho:s.heap.get? I=some o) (hc:o.cls= .type c) (hn:(["enumerate","zip","dict_itemiterator","dict_reverseitemiterator","odict_iterator","itertools.zip_longest","itertools.pairwise"].contains c)=false)
  {Q:Unit->Shared->Prop} {E:Value->Shared->Prop} (hQ:Q () s) {aN:Expr} (hp:Plain aN) {v:Value}:wpAny (model XX w) A (letOwnedTupleGo aN (.ref I) v) Q E s:=by
 cases hp with
 |name x p=>exact wpAny_of_eq rfl hQ
 |tup es k p=>
  unfold letOwnedTupleGo;cases v with
  |ref a=>
   refine Z4 (wpAny_load ho ?_);obtain ⟨cls,Xd,dt,sl⟩:=o;have hc:cls= .type c:=hc;subst hc;cases dt with
   |fields vs=>
    show wpAny _ A (if (["enumerate","zip","dict_itemiterator","dict_reverseitemiterator","odict_iterator","itertools.zip_longest","itertools.pairwise"].contains c&&vs[0]? ==some (rawInt a))=true then _ else _) Q E s;rw [hn,Bool.false_and,if_neg bH];exact X5 hQ
   |_=>exact X5 hQ
  |_=>exact X5 hQ
def nJ {ai:List ι} {abL:ι->YJ} {Pv:Nat->Value->Prop} {St:Nat->Heap->Prop} (W:Walks XX w A I fp wr ai.length Pv St)
  (UJ:∀i (hi:i<ai.length) v,Pv i v->∀g,XN (hide S aj.heap) g->(abL ai[i]).p g v)
  (sq:∀i h,St i h->∃o c,h.get? I=some o/\o.cls= .type c/\(["enumerate","zip","dict_itemiterator","dict_reverseitemiterator","odict_iterator","itertools.zip_longest","itertools.pairwise"].contains c)=false)
  (fx:∀i h,St i h->∀b∈wr,∃o,h.get? b=some o) (new:∀b∈wr,aj.heap.get? b=none) (out:∀b∈fp,b∉S) (r8:∀b∈fp,b∉wr->∃o,(hide S aj.heap).get? b=some o):zG A S aj I fp wr ai abL Plain St where
 sub:=W.sub
 frame:=W.frame
 turn:=λ i hi aN hp s S' Q st le hw hl k=>by refine W.item i s _ _ hi st λ v h' tk pv ip bq=>cV v rfl ?_;refine bU (sq _ _ ip) λ o c h1 h2 h3=>?_;exact sj h1 h2 h3 (k v h' tk (UJ i hi v pv _ (le.trans (b5 λ b o n e=>bq b o (λ m=>n (hw b m)) e))) ip bq) hp
 done:=W.done
 self:=W.self
 live:=fx
 new:=new
 out:=out
 r8:=r8
def mr {o:Obj} (e:(hide S h).get? b=some o):b∉S:=λ m=>by rw [bI,if_pos m] at e;cases e
def ed {vs:Array Value} {m:Nat} (h1:IsL h a vs m):h.IsList a vs:=⟨_,h1,rfl,_,rfl⟩
def mU {vs:Array Value} {m:Nat} (h1:IsT h a vs m):h.IsTuple a vs:=⟨_,h1,rfl,_,rfl⟩
def eO (f:∀b∈S,∃o,h.get? b=some o) (e:h.objs.size<=b):b∉S:=λ m=>by refine aM (f b m) λ o x=>?_;exact absurd (Heap.lt_size x) (Nat.not_lt.mpr e)
def vL {ai:List ι} {abL:ι->YJ} (hh:A.handled=none) (he:Ev A sc ρ aG (cH (ai.map abL))):jP A sc ρ aG ai abL Plain:=λ S aa s c=>
 he.use c λ v aj k₁ c₁ aZ=>by
  refine bw aZ λ a vs m dI ha pa=>?_;subst dI;have e1:=pa.length;rw [Array.length_toList,lm] at e1;have c4:a<aj.heap.objs.size:=Heap.lt_size (ao _ _ ha);refine eX aj k₁ (cB _) (wpAny_pyIter_list (ed (ao _ _ ha)) ⟨gK _ _ _,aj.heap.objs.size,[aj.heap.objs.size,a],[aj.heap.objs.size],λ i h=>h.IsListIter aj.heap.objs.size a i/\h.IsList a vs,rfl,?_,⟨⟨_,Heap.get?_push_size _ rfl,rfl,rfl⟩,(ed (ao _ _ ha)).push _⟩,?_⟩)
  ·have W:=Walks.list (prog:=XX) (w:=w) hh aj.heap.objs.size a (Nat.ne_of_lt c4) vs;rw [e1] at W;refine nJ W (λ i hi v pv g le=>?_) (λ i h st=>?_) (λ i h st b hb=>?_) (λ b hb=>?_) (λ b hb=>?_) (λ b hb hn=>?_)
   ·refine aK (pa.get (i:=i) (P:=abL ai[i]) (by rw [List.getElem?_map];simp [hi])) λ u h1 h2=>?_;have:u=v:=by rw [Array.getElem?_toList] at h1;exact Option.some.inj (h1.symm.trans pv)
    subst this;exact (abL _).mono le h2
   ·refine cZ st.1 λ o h1 h2 ξ=>?_;exact bW o _ h1 h2 bH
   ·rw [bj hb];refine aK st.1 λ o h1 ξ=>?_;exact ⟨o,h1⟩
   ·rw [bj hb];exact get_none (Nat.le_refl _)
   ·rcases cF hb with rfl|hb
    ·exact eO c₁.b4 (Nat.le_refl _)
    ·rw [bj hb];exact mr ha
   ·rcases cF hb with rfl|hb
    ·exact absurd (List.mem_singleton.mpr rfl) hn
    ·rw [bj hb];exact ⟨_,ha⟩
  ·intro b hb;show b<(aj.heap.push _).objs.size;rw [Heap.size_push];rcases cF hb with rfl|hb
   ·exact Nat.lt_succ_self _
   ·rw [bj hb];exact Nat.lt_succ_of_lt c4
def ki {ai:List ι} {abL:ι->YJ} (hh:A.handled=none) (he:Ev A sc ρ aG (f5 (ai.map abL))):jP A sc ρ aG ai abL Plain:=λ S aa s c=>
 he.use c λ v aj k₁ c₁ aZ=>by
  refine bw aZ λ a vs m eL ha pa=>?_;subst eL;have e1:=pa.length;rw [Array.length_toList,lm] at e1;have c4:a<aj.heap.objs.size:=Heap.lt_size (ao _ _ ha);refine eX aj k₁ (cB _) (wpAny_pyIter_tuple (mU (ao _ _ ha)) ⟨gK _ _ _,aj.heap.objs.size,[aj.heap.objs.size,a],[aj.heap.objs.size],λ i h=>h.IsTupleIter aj.heap.objs.size a i/\h.IsTuple a vs,rfl,?_,⟨⟨_,Heap.get?_push_size _ rfl,rfl,rfl⟩,(mU (ao _ _ ha)).push _⟩,?_⟩)
  ·have W:=Walks.tuple (prog:=XX) (w:=w) hh aj.heap.objs.size a (Nat.ne_of_lt c4) vs;rw [e1] at W;refine nJ W (λ i hi v pv g le=>?_) (λ i h st=>?_) (λ i h st b hb=>?_) (λ b hb=>?_) (λ b hb=>?_) (λ b hb hn=>?_)
   ·refine aK (pa.get (i:=i) (P:=abL ai[i]) (by rw [List.getElem?_map];simp [hi])) λ u h1 h2=>?_;have:u=v:=by rw [Array.getElem?_toList] at h1;exact Option.some.inj (h1.symm.trans pv)
    subst this;exact (abL _).mono le h2
   ·refine cZ st.1 λ o h1 h2 ξ=>?_;exact bW o _ h1 h2 bH
   ·rw [bj hb];refine aK st.1 λ o h1 ξ=>?_;exact ⟨o,h1⟩
   ·rw [bj hb];exact get_none (Nat.le_refl _)
   ·rcases cF hb with rfl|hb
    ·exact eO c₁.b4 (Nat.le_refl _)
    ·rw [bj hb];exact mr ha
   ·rcases cF hb with rfl|hb
    ·exact absurd (List.mem_singleton.mpr rfl) hn
    ·rw [bj hb];exact ⟨_,ha⟩
  ·intro b hb;show b<(aj.heap.push _).objs.size;rw [Heap.size_push];rcases cF hb with rfl|hb
   ·exact Nat.lt_succ_self _
   ·rw [bj hb];exact Nat.lt_succ_of_lt c4
def bZ [aaK α] {xs:List α} (hh:A.handled=none) (he:Ev A sc ρ aG (is xs)):jP A sc ρ aG xs is Plain:=vL hh (he.imp λ ξ ξ=>is_list.mp)
def vM [aaK α] {xs:jS α} (hh:A.handled=none) (he:Ev A sc ρ aG (is xs)):jP A sc ρ aG xs.xs is Plain:=ki hh (he.imp λ ξ ξ=>is_tup.mp)
noncomputable def zM (a b c:Int):YJ:=⟨λ h v=>∃(r:Addr) (t u z:Tok),v= .ref r/\IsRange h r a b c t u z,λ k ⟨r,t,u,z,e,x⟩=>pn r t u z e (k _ _ x)⟩
def oq {b:Int}:fJ A (.type "range") [is b] (zM 0 b 1):=λ S s vs T fr p=>by refine aK p.one λ v gM pv=>?_;subst gM;refine aM (bD.mp pv) λ t fN=>?_;subst fN;exact call_range_1 ⟨gK _ _ _,_,_,_,_,rfl,eZ fr rfl⟩
def DE {a b c:Int} (hc:c≠0) (hs:c.natAbs<1073741824):fJ A (.type "range") [is a,is b,is c] (zM a b c):=λ S s vs T fr p=>by refine lZ p.three λ z v u fO p1 p2 p3=>?_;subst fO;refine aM (bD.mp p1) λ t gN=>?_;subst gN;refine aM (bD.mp p2) λ t' gj=>?_;subst gj;refine aM (bD.mp p3) λ Xe jy=>?_;subst jy;exact call_range_3 hc ⟨gK _ _ _,_,_,_,_,rfl,eZ fr rfl⟩ (.inl (PyProof.noPylong_small hs))
def mu {a b c:Int} (hh:A.handled=none) (he:Ev A sc ρ aG (zM a b c)) (DF:Builtin.Range.small a b c=true) (hn:Builtin.Range.rangeSize a b c=n):jP A sc ρ aG (List.range n) (λ i=>is (a+(i:Int)*c)) Plain:=λ S aa s cx=>
 he.use cx λ v aj k₁ c₁ aZ=>by
  refine rX aZ λ r t u z l6 ha=>?_;subst l6;have c4:r<aj.heap.objs.size:=Heap.lt_size (ao _ _ ha);refine eX aj k₁ (cB _) (wpAny_pyIter_range (ao _ _ ha) DF ⟨gK _ _ _,aj.heap.objs.size,[aj.heap.objs.size],[aj.heap.objs.size],λ i h=>IsRangeIter h aj.heap.objs.size (a+(i:Nat)*c) ((n:Int) - (i:Nat)) c,rfl,?_,?_,?_⟩)
  ·have W:=Walks.range (prog:=XX) (w:=w) hh aj.heap.objs.size a c n;rw [show n=(List.range n).length from List.length_range.symm] at W;refine nJ (by simpa using W) (λ i hi v pv g le=>?_) (λ i h st=>?_) (λ i h st b hb=>?_) (λ b hb=>?_) (λ b hb=>?_) (λ b hb hn=>absurd hb hn)
   ·refine aM pv λ t kc=>?_;subst kc;rw [List.getElem_range];exact bD.mpr ⟨t,rfl⟩
   ·exact bW _ _ st rfl bH
   ·rw [bj hb];exact ⟨_,st⟩
   ·rw [bj hb];exact get_none (Nat.le_refl _)
   ·rw [bj hb];exact eO c₁.b4 (Nat.le_refl _)
  ·show Heap.get? _ _=_;rw [hn];have:=Heap.get?_push_size aj.heap (o:={cls:=.type "range_iterator",data:=.fields #[rawInt a,rawInt n,rawInt c]}) rfl;simpa using this
  ·intro b hb;show b<(aj.heap.push _).objs.size;rw [Heap.size_push,bj hb];exact Nat.lt_succ_self _
def YQ.drop {D:List Addr} (f:YQ sc ak F aw az aa ρ (K.and J) (D++S) s) (iw:YQ sc ak F aw az aa ρ J S s) (bq:∀b o,b∉D->s.heap.get? b=some o->h'.get? b=some o)
  (h1:aa.locals∉D) (h2:∀n b,aa.cells.lookup n=some b->b∉D) (h3:∀b∈S,b∉D) (h4:∀b∈D,az.heap.get? b=none):YQ sc ak F aw az aa ρ J S {s with heap:=h',toks:=tk}:=by
 have le:XN (hide (D++S) s.heap) (hide S h'):=λ b o e=>by
  rw [bI] at e⊢;split at e
  ·cases e
  ·rename_i hb;rw [if_neg λ m=>hb (bC _ m)];exact bq b o (λ m=>hb (bL _ m)) e
 exact {
  cx:=⟨f.cx.names,f.cx.kind,f.cx.glob,f.cx.bi,λ n P e=>(f.cx.vars n P e).map (λ m v z q d=>cY z λ o es ep a r=>bW m v ⟨o,es,ep,bq _ _ h1 a,r⟩ q (P.mono le d)) λ ξ c v a z d=>aK z λ o q r=>bW c v a ⟨o,bq _ _ (h2 _ _ a) q,r⟩ (P.mono le d),λ b hb=>by refine aM (iw.cx.b4 b hb) λ o e=>?_;exact ⟨o,bq _ _ (h3 b hb) e⟩,f.cx.top.mono le⟩
  Zt:=iw.Zt.keep (λ o e=>bq _ _ h1 e) λ n ξ c q o e=>bq _ _ (h2 n c q) e
  aaH:=by
   refine cS f.aaH.same λ yF Fs iM=>?_;refine ⟨⟨h',tk,by rw [iM]⟩,λ d o nd x=>bq d o (λ m=>?_) (f.aaH.keep d o nd x),λ d o x=>?_⟩
   ·rw [h4 d m] at x;cases x
   ·refine aM (f.aaH.live d o x) λ o' y=>?_;exact ⟨o',bq d o' (λ m=>by rw [h4 d m] at x;cases x) y⟩
  sub:=iw.sub
  new:=iw.new
  loc:=iw.loc
  gb:=iw.gb
  cl:=λ n b e=>let ⟨o,q⟩:=iw.cl n b e;⟨o,bq b o (h2 n b e) q⟩
  jp:=J.st le ao ao (λ b hb o e=>bq b o (h3 b (iw.aar b hb).1) e) f.jp.2
  aar:=iw.aar}
noncomputable def kj {S:List Addr} {aj:Shared} {I:Addr} {fp wr:List Addr} {ι:Type} {ai:List ι} {abL:ι->YJ} {Ok:Expr->Prop} {St:Nat->Heap->Prop} (W:zG A S aj I fp wr ai abL Ok St) (i:Nat):XW:=
 ⟨wr,λ g h=>St i h/\(∀b∈fp,b∉wr->∃o,g.get? b=some o)/\XN (hide S aj.heap) g,λ {g g' h h'} le l1 l2 k x=>⟨W.frame i h h' x.1 λ b hb o e=>by
  by_cases m:b∈wr
  ·exact k b m o e
  ·refine aM (x.2.1 b hb m) λ o' e'=>?_;have:=l1 _ _ e';rw [e] at this;cases this;exact l2 _ _ (le _ _ e'),λ b hb m=>let ⟨o,e⟩:=x.2.1 b hb m;⟨o,le _ _ e⟩,x.2.2.trans le⟩⟩
def lC {ai:List ι} {abL:ι->YJ} {β:ι->eV} {ZH:Nat->XW} {lT:eV} {aap:XW}
  (iw:YQ sc ak F aw az aa ρ (ZH 0) S s) (gz:∀n P,(f9 0).lookup n=some P->ρ.lookup n=some P) (hs:jP A sc ρ aG ai abL Ok) (ou:Ok aN) (iG:∀x,foldedSetIterable aG aa x=pure x)
  (ht:∀a∈ai,jn A sc ak aN (abL a) (β a)) (kX:∀i b,b∈(ZH i).fp->b∈(ZH 0).fp) (Om:∀b,b∈aap.fp->b∈(ZH 0).fp)
  (step:∀i (hi:i<ai.length) (K:XW) S' s',(∀b∈K.fp,b∉S)->YQ sc ak F aw az aa (β ai[i]++f9 i) (K.and (ZH i)) S' s'->
   wpAny (model XX w) A (execs bM aa) (λ fl gh=>match fl with
    | .next| .cont=>YQ sc ak F aw az aa (f9 (i+1)) (K.and (ZH (i+1))) S' gh
    | .brk=>YQ sc ak F aw az aa lT (K.and aap) S' gh
    | .ret v=>Q (.ret v) gh) dj s')
  (fin:∀S' s',YQ sc ak F aw az aa (f9 ai.length) (ZH ai.length) S' s'->YQ sc ak F aw az aa lT aap S' s')
  (k:∀s',YQ sc ak F aw az aa lT aap S s'->wpAny (model XX w) A (execs aD aa) Q dj s'):
  wpAny (model XX w) A (execs (.For aN aG bM [] ar::aD) aa) Q dj s:=by
 have f:=iw.ek gz;refine YF (wpAny_For (hs:=iG) (Zh (hs S aa s iw.cx) (λ xv aaq q=>?_) eY));refine cZ q λ aj k₁ kx q=>?_;refine Zh q (λ it aA q=>?_) eY;refine jH q λ k₂ I fp wr St rh W o6 Ny=>?_;subst rh;replace k₂:=aL kx k₂;have bN:=f.keep k₁;have back:∀{gy:eV} {aa_ K:XW} {s':Shared},(∀b∈aa_.fp,b∈(ZH 0).fp)->YQ sc ak F aw az aa gy (K.and aa_) (wr++S) s'->YQ sc ak F aw az aa gy aa_ S s':=λ hh g=>
  g.shrink (λ b hb=>bC _ hb) f.sub f.Zt.loc (λ n hn kk b e=>by refine bU (f.Zt.gb n hn kk) λ c v a1 a2 ξ=>?_;rw [a1] at e;cases e;exact a2) g.jp.2 λ b hb=>⟨bC _ hb,(f.aar b (hh b hb)).1⟩
 have r8:∀b∈fp,b∉wr->∃o,(hide (wr++S) aA.heap).get? b=some o:=λ b hb hn=>by
  refine aM (W.r8 b hb hn) λ o e=>?_;refine ⟨o,?_⟩;rw [bI,if_neg λ m=>?_]
  ·exact kle k₂ _ _ (ao _ _ e)
  ·rcases bR m with m|m
   ·exact hn m
   ·exact W.out b hb m
 have grow:XN (hide S aj.heap) (hide (wr++S) aA.heap):=dH (kle k₂) λ b hb=>by
  rcases bR hb with m|m
  ·exact .inr (W.new b m)
  ·exact .inl m
 have bh:YQ sc ak F aw az aa (f9 0) ((kj W 0).and (ZH 0)) (wr++S) aA:=bN.yG k₂ W.new (λ b m=>W.live 0 _ o6 b m) (λ b hb=>hb) ⟨o6,r8,grow⟩;let I':Nat->Shared->Prop:=λ m s'=>∃i,i≤ai.length/\m=ai.length - i/\YQ sc ak F aw az aa (f9 i) ((kj W i).and (ZH i)) (wr++S) s';have uB:∀{α:Type} {t:Sem α} {Q:α->Shared->Prop} {E:Value->Shared->Prop} {s:Shared},wpAny (model XX w) A t Q dj s->wpAny (model XX w) A t Q E s:=λ h=>Zh h dp eY;have go:∀s',YQ sc ak F aw az aa lT aap S s'->wpAny (model XX w) A (execs aD aa) Q dj s':=k;refine codeAny_mono (codeAny_forLoop_any (R:=λ r s'=>match r with
   | .ok .next=>YQ sc ak F aw az aa lT aap S s'
   | .ok (.ret v)=>Q (.ret v) s'
   |_=>False) I' (λ m s' hI=>?_) ai.length ⟨0,Nat.zero_le _,rfl,bh⟩) λ r s' hr=>?_
 ·refine cZ hI λ i hi ve ZL=>?_;subst ve;by_cases c4:i<ai.length
  ·refine uB (Zh (W.turn i c4 aN ou s' (wr++S) (λ v aA=>wpAny (model XX w) A (assign aN aa v) (λ ξ aA=>wpAny (model XX w) A (execs bM aa) (λ f aH=>match f with
      | .next| .cont=>∃m,m<ai.length - i/\I' m aH
      | .brk=>YQ sc ak F aw az aa lT aap S aH
      | .ret v=>Q (.ret v) aH) dj aA) dj aA) ZL.jp.1.1 ZL.jp.1.2.2 (λ b m=>bL _ m) ZL.cx.b4 λ v h' tk hv ip bq=>?_) (λ r aA q=>?_) dp)
   ·have dS:XN (hide (wr++S) s'.heap) (hide (wr++S) h'):=b5 λ b o n e=>bq b o (λ m=>n (bL _ m)) e;have abf:YQ sc ak F aw az aa (f9 i) ((kj W (i+1)).and (ZH i)) (wr++S) {s' with heap:=h',toks:=tk}:=by
     refine ZL.Bl (D:=wr) (λ b m=>bL _ m) bq (λ b m=>W.live _ _ ip b m) ⟨⟨ip,λ b hb hn=>?_,ZL.jp.1.2.2.trans dS⟩,?_⟩ λ d hd=>hd
     ·refine aM (ZL.jp.1.2.1 b hb hn) λ o e=>?_;exact ⟨o,dS _ _ e⟩
     ·refine (ZH i).st dS ao ao (λ b hb o e=>bq b o (λ m=>?_) e) ZL.jp.2;have zN:=kX i b hb;have hS:=(f.aar b zN).1;refine aM (bN.cx.b4 b hS) λ o' e'=>?_;rw [W.new b m] at e';cases e'
    refine ht _ (List.getElem_mem c4) (f9 i) (wr++S) aa _ v _ _ abf.cx abf.Zt hv λ aH vN lN Bo vO=>?_;have dC:=abf.kept vN lN Bo vO;refine Zh (step i c4 (kj W (i+1)) (wr++S) aH (λ b m=>W.out b (W.sub b m)) dC) (λ fl bS q=>?_) dp;have Im:YQ sc ak F aw az aa (f9 (i+1)) ((kj W (i+1)).and (ZH (i+1))) (wr++S) bS->∃m,m<ai.length - i/\I' m bS:=λ fB=>
     ⟨ai.length - (i+1),Nat.sub_lt_sub_left c4 (Nat.lt_succ_self i),i+1,c4,rfl,fB⟩
    cases fl with
    |next=>exact Im q
    |cont=>exact Im q
    |brk=>exact back Om q
    |ret v=>exact q
   ·obtain ⟨v,rfl,q⟩:=q;exact uB (Zh q (λ ξ aH q=>uB (Zh q (λ ξ bS q=>uB (Zh q (λ fl bY q=>by cases fl<;>exact q) dp)) dp)) dp)
  ·have:i=ai.length:=Nat.le_antisymm hi (Nat.le_of_not_lt c4);subst this;refine W.done s' _ _ ZL.jp.1.1 λ h' tk bq=>?_;refine wpAny_execs_nil (fin _ _ (YQ.drop ZL (back (λ b hb=>kX _ b hb) ZL) bq (λ m=>?_) (λ n b e m=>?_) (λ b hb m=>?_) λ b m=>?_))
   ·refine aM bN.Zt.ns λ mm Du=>?_;refine cY Du λ o ξ ξ e ξ=>?_;rw [W.new _ m] at e;cases e
   ·refine aM (bN.cl n b e) λ o e=>?_;rw [W.new b m] at e;cases e
   ·refine aM (bN.cx.b4 b hb) λ o' e'=>?_;rw [W.new b m] at e';cases e'
   ·cases e:az.heap.get? b with
    |none=>rfl
    |some o=>refine aM (bN.aaH.live _ _ e) λ o' z=>?_;rw [W.new b m] at z;cases z
 ·cases r with
  |ok fl=>
   cases fl with
   |next=>exact k s' hr
   |ret v=>exact hr
   |_=>exact hr.elim
  |error e=>exact hr.elim
structure yH (J aa_:XW) (D:Addr) (YN DG:List YJ):Prop where
 mem:D∈J.fp
 fp:∀b∈aa_.fp,b∈J.fp
 get:∀{g h:Heap},J.p g h->(dc D YN).p g h
 set:∀{g g' h h':Heap},XN g g'->XN g h->XN g' h'->(∀b o,b≠D->h.get? b=some o->h'.get? b=some o)->J.p g h->(dc D DG).p g' h'->aa_.p g' h'
def ow {DG:List YJ} (hD:D∉J.fp):yH ((dc D YN).and J) ((dc D DG).and J) D YN DG where
 mem:=bL _ (List.mem_singleton.mpr rfl)
 fp:=λ ξ h=>h
 get:=λ x=>x.1
 set:=λ l1 l2 Yi k x y=>⟨y,J.st l1 l2 Yi (λ b hb o e=>k b o (λ q=>hD (q▸hb)) e) x.2⟩
def uY {DG:List YJ} (l:yH J aa_ D YN DG) (hD:D∉K.fp):yH (K.and J) (K.and aa_) D YN DG where
 mem:=bC _ l.mem
 fp:=λ b h=>by
  rcases bR h with h|h
  ·exact bL _ h
  ·exact bC _ (l.fp b h)
 get:=λ x=>l.get x.2
 set:=λ l1 l2 Yi k x y=>⟨K.st l1 l2 Yi (λ b hb o e=>k b o (λ q=>hD (q▸hb)) e) x.1,l.set l1 l2 Yi k x.2 y⟩
def rr (f:YQ sc ak F aw az aa ρ J S s) (hx:cw ak sc z=true) (hs:∀aa:Env,aa.scope.kind= .function->aa.scope.names=sc->swapsWith (.List [] lp) (some (.Name z YA)) ar.line aa=pure false)
  (k:∀D s',D∉S->D∉J.fp->YQ sc ak F aw az aa ((z,lit (.ref D))::ρ) ((dc D []).and J) (D::S) s'->wpAny (model XX w) A (execs aD aa) Q E s'):wpAny (model XX w) A (execs (.Assign [.Name z YA] (.List [] lp) ar::aD) aa) Q E s:=by
 refine YF (wpAny_Assign_Name (hs:=hs aa f.cx.kind f.cx.names) (wpAny_List (wpAny_items_nil ⟨Nat.zero_le _,?_⟩)));have hn:s.heap.get? s.heap.objs.size=none:=get_none (Nat.le_refl _);have iy:(s.heap.push {cls:=.type "list",data:=.seq ([]:List Value).toArray}).get? s.heap.objs.size=some {cls:=.type "list",data:=.seq ([]:List Value).toArray}:=Heap.get?_push_size _ rfl;have f':=f.lay (s':={s with heap:=s.heap.push {cls:=.type "list",data:=.seq ([]:List Value).toArray}}) (D:=s.heap.objs.size) (K:=dc s.heap.objs.size []) ⟨_,_,rfl,λ ξ ξ e=>cN _ e⟩ hn ⟨_,iy⟩ (λ b m=>bj m) ⟨_,_,iy,trivial⟩;have e9:s.heap.objs.size∉S:=eO f.cx.b4 (Nat.le_refl _);exact gO f'.cx f'.Zt hx (P:=lit (.ref s.heap.objs.size)) rfl λ aA a b d g=>k _ aA e9 (λ m=>e9 (f.aar _ m).1) (f'.kept a b d g)
def YQ.view (f:YQ sc ak F aw az aa ρ J S s) (hz:ρ.lookup z=some (lit (.ref D))) (hj:(dc D YN).p (hide S s.heap) s.heap):XK sc ((z,cH YN)::ρ) (S.filter λ b=>!decide (b=D)) aa s.heap:=by
 have sub:∀b∈(S.filter λ b=>!decide (b=D)),b∈S:=λ b hb=>(aa7 hb).1;have c:=f.cx.less sub;refine bu hj λ vs m h1 h2=>?_;have hw:(cH YN).p (hide (S.filter λ b=>!decide (b=D)) s.heap) (.ref D):=by refine jm D vs m rfl ?_ (h2.mono (cT sub));show Heap.get? _ D=_;rw [bI,if_neg λ q=>by have:=(aa7 q).2;simp at this];exact h1
 refine ⟨c.names,c.kind,c.glob,c.bi,λ n P e=>?_,c.b4,c.top⟩;rw [List.lookup_cons] at e;by_cases q:n=z
 ·subst q;rw [beq_self_eq_true] at e;cases e;have x:=c.vars n _ hz;exact x.map (λ m v a b d=>bW m v a b ((show v= .ref D from d)▸hw)) λ ξ c v a b d=>bW c v a b ((show v= .ref D from d)▸hw)
 ·rw [beq_eq_false_iff_ne.mpr q] at e;exact c.vars n P e
def nk {b:Bool} (f:YQ sc ak F aw az aa ρ J S s) (c:XK sc gy S' aa s.heap) (t:te A sc gy e b)
  (h1:b=true->∀s',YQ sc ak F aw az aa ρ J S s'->wpAny (model XX w) A (execs bM aa) (rn A aa aD Q E) E s')
  (h2:b=false->∀s',YQ sc ak F aw az aa ρ J S s'->wpAny (model XX w) A (execs orelse aa) (rn A aa aD Q E) E s'):
  wpAny (model XX w) A (execs (.If e bM orelse ar::aD) aa) Q E s:=
 YF (wpAny_If (t.use c λ aj k₁ c₁=>by
  cases b with
  |true=>exact h1 rfl aj (f.keep k₁)
  |false=>exact h2 rfl aj (f.keep k₁)))
def YQ.vP (f:YQ sc ak F aw az aa ρ ((dc D YN).and J) S s) (hz:ρ.lookup z=some (lit (.ref D))) (h0:D∉aw) (hD:D∉J.fp):YQ sc ak F aw az aa ((z,cH YN)::ρ) J (S.filter λ b=>!decide (b=D)) s:=by
 have nl:D≠aa.locals:=(f.aar D (bL _ (List.mem_singleton.mpr rfl))).2.1;have ZC:∀n,aa.cells.lookup n≠some D:=(f.aar D (bL _ (List.mem_singleton.mpr rfl))).2.2.1;have keep:∀b,b∈S->b≠D->b∈(S.filter λ b=>!decide (b=D)):=λ b hb hn=>List.mem_filter.mpr ⟨hb,by simp [hn]⟩;have g:=f.shrink (S:=S.filter λ b=>!decide (b=D)) (aa_:=J) (λ b hb=>(aa7 hb).1) (λ b hb=>keep b (f.sub b hb) λ q=>h0 (q▸hb)) (keep _ f.Zt.loc (Ne.symm nl))
  (λ n hn kk b e=>by refine bU (f.Zt.gb n hn kk) λ c v a b' d=>?_;rw [a] at e;cases e;exact keep _ b' λ q=>ZC n (q▸a)) f.jp.2 λ b hb=>⟨bC _ hb,keep b (f.aar b (bC _ hb)).1 λ q=>hD (q▸hb)⟩
 exact ⟨f.view hz f.jp.1,g.Zt,g.aaH,g.sub,g.new,g.loc,g.gb,g.cl,g.jp,g.aar⟩
def iz (c:XK sc ρ S aa h):interactive aa=false:=by unfold interactive;rw [c.kind];rfl
def Fv (h:Q .cont s):wpAny (model XX w) A (execs (.Continue ar::aD) aa) Q E s:=YF (wpAny_Continue h)
def Io (h:Q .brk s):wpAny (model XX w) A (execs (.Break ar::aD) aa) Q E s:=YF (wpAny_Break h)
def yI (f:YQ sc ak F aw az aa ρ J S s) (hz:Ev A sc ρ (.Name z YA) (lit (.ref D))) (L:yH J aa_ D YN (YN++[P])) (he:Ev A sc ρ aS P) (hsz:YN.length<=sizeLine) (jA:name="append") (hp:eT [aS])
  (gP:∀aa:Env,aa.scope.kind= .function->aa.scope.names=sc->swapsWith (.Call (.Attribute (.Name z YA) name bE) [aS] [] be) none ar.line aa=pure false)
  (oz:∀aa,∃pl:Sem Bool,eval (.Call (.Attribute (.Name z YA) name bE) [aS] [] be) aa=(do
   let ov<-eval (.Name z YA) aa
   standAt bE.atName
   let (f,first)<-holding [ov] (getMethod ov name pl)
   callWith be f first (backTo be (starEach [aS] aa)) []))
  (mw:∀aa,starEach [aS] aa=(false,eval aS aa)::starEach [] aa)
  (k:∀s',YQ sc ak F aw az aa ρ aa_ S s'->wpAny (model XX w) A (execs aD aa) Q E s'):wpAny (model XX w) A (execs (.Expr (.Call (.Attribute (.Name z YA) name bE) [aS] [] be) ar::aD) aa) Q E s:=by
 subst jA;refine YF ?_;rw [exec_Expr aa _ ar (iz f.cx) (gP aa f.cx.kind f.cx.names)];refine Z4 (ig (Z4 ?_));refine aM (oz aa) λ pl e=>?_;rw [e];refine Z4 (hz.use f.cx λ v aj k₁ c₁ aZ=>?_);rw [show v= .ref D from aZ];have bN:=f.keep k₁;refine bu (L.get bN.jp) λ vs m hl ξ=>?_;refine Z4 (ig (Z4 (XG (getMethod_builtin ⟨_,hl,rfl⟩ PySem.F.plainAttrs_list PySem.F.slot_list_append PySem.F.type_list_append (λ a q=>by cases q;exact cV _ hl rfl) ?_))));refine eg (hp aa be) ?_;refine j7 (he:=mw aa) (he.use c₁ λ u aA k₂ c₂ cG=>wpAny_items_nil ⟨trivial,?_⟩);have bh:=bN.keep k₂;refine bu (L.get bh.jp) λ DH m₂ vQ vR=>?_;have e1:=vR.length;rw [Array.length_toList] at e1;refine wpAny_list_append_plain (hsz:=by rw [e1];exact hsz) ⟨m₂,vQ⟩ λ h' eF gA=>?_;refine aM eF λ m' eF=>?_;rw [dropValue_plain λ ξ q=>by cases q];refine X5 ?_;have e9:=(bh.aar D L.mem).1;have dS:XN (hide S aA.heap) (hide S h'):=b5 λ b o nb e=>(gA.2 b λ q=>nb (q▸e9)).trans e;refine k _ (bh.mut (aa_:=aa_) (tk:=aA.toks) L.mem gA ⟨_,eF⟩ (L.set dS ao ao (λ b o nb e=>(gA.2 b nb).trans e) bh.jp ⟨_,_,eF,?_⟩) L.fp);rw [Array.toList_push];exact (vR.mono dS).append ⟨P.mono dS cG,trivial⟩
def Oo {Pl:YJ} (f:YQ sc ak F aw az aa ρ J S s) (hz:Ev A sc ρ (.Name z YA) (lit (.ref D))) (L:yH J aa_ D (YN++[Pl]) YN) (hsz:YN.length<sizeLine) (jA:name="pop") (g8:∀g v,Pl.p g v->∀a,v≠ .ref a)
  (gP:∀aa:Env,aa.scope.kind= .function->aa.scope.names=sc->swapsWith (.Call (.Attribute (.Name z YA) name bE) [] [] be) none ar.line aa=pure false)
  (oz:∀aa,∃pl:Sem Bool,eval (.Call (.Attribute (.Name z YA) name bE) [] [] be) aa=(do
   let ov<-eval (.Name z YA) aa
   standAt bE.atName
   let (f,first)<-holding [ov] (getMethod ov name pl)
   callWith be f first (backTo be (starEach [] aa)) []))
  (k:∀s',YQ sc ak F aw az aa ρ aa_ S s'->wpAny (model XX w) A (execs aD aa) Q E s'):wpAny (model XX w) A (execs (.Expr (.Call (.Attribute (.Name z YA) name bE) [] [] be) ar::aD) aa) Q E s:=by
 subst jA;refine YF ?_;rw [exec_Expr aa _ ar (iz f.cx) (gP aa f.cx.kind f.cx.names)];refine Z4 (ig (Z4 ?_));refine aM (oz aa) λ pl e=>?_;rw [e];refine Z4 (hz.use f.cx λ v aj k₁ c₁ aZ=>?_);rw [show v= .ref D from aZ];have bN:=f.keep k₁;refine bu (L.get bN.jp) λ vs m hl pa=>?_;have e1:=pa.length;rw [Array.length_toList,gD] at e1;refine aK (pa.get (i:=YN.length) (P:=Pl) (by simp)) λ u hu pu=>?_;refine Z4 (ig (Z4 (XG (getMethod_builtin ⟨_,hl,rfl⟩ PySem.F.plainAttrs_list PySem.F.slot_list_pop PySem.F.type_list_pop (λ a q=>by cases q;exact cV _ hl rfl) ?_))));have t7:vs.size=YN.length+1:=by simpa using e1
 refine _root_.PySem.P.pop_list hl (y:=u) (by rw [t7,Nat.add_sub_cancel];simpa using hu) ?_ (by w_up);rw [dropValue_plain (g8 _ _ pu)];refine X5 ?_;have e9:=(bN.aar D L.mem).1;generalize hh:aj.heap.update D (Obj.mapSeq λ xs=>xs.eraseIdxIfInBounds (vs.size - 1))=h';have gA:Heap.SameBut D aj.heap h':=by rw [<-hh];exact Heap.SameBut.update ..
 obtain ⟨m',eF⟩:∃m',IsL h' D (vs.eraseIdxIfInBounds (vs.size - 1)) m':=by rw [<-hh];exact ⟨_,Heap.get?_update_self (Obj.mapSeq λ xs=>xs.eraseIdxIfInBounds (vs.size - 1)) hl rfl⟩
 have dS:XN (hide S aj.heap) (hide S h'):=b5 λ b o nb e=>(gA.2 b λ q=>nb (q▸e9)).trans e;refine k _ (bN.mut (aa_:=aa_) (tk:=aj.toks) L.mem gA ⟨_,eF⟩ (L.set dS ao ao (λ b o nb e=>(gA.2 b nb).trans e) bN.jp ⟨_,_,eF,?_⟩) L.fp);have e3:(vs.eraseIdxIfInBounds (vs.size - 1)).toList=vs.toList.take YN.length:=by
  unfold Array.eraseIdxIfInBounds;rw [dif_pos (by rw [t7,Nat.add_sub_cancel];exact Nat.lt_succ_self _),Array.toList_eraseIdx,t7,Nat.add_sub_cancel];have:vs.toList.length=YN.length+1:=by simpa using t7
  rw [List.eraseIdx_eq_take_drop_succ,List.drop_of_length_le (by w_up),List.append_nil]
 rw [e3];have:=pa.take YN.length;rw [List.take_left] at this;exact this.mono dS
def iY:Slot "map" "__next__" "map.__next__":=
 .of (owner:="map") (n:="__next__") (by rw [typeLookup_type,builtinLookup_eq_fast];kernel_rfl) abd abd abd
  (by first|exact .inl abd|exact .inr abd) (by rw [isSubtype_type];kernel_rfl)
def pN:Slot "map" "__iter__" "map.__iter__":=
 .of (owner:="map") (n:="__iter__") (by rw [typeLookup_type,builtinLookup_eq_fast];kernel_rfl) abd abd abd
  (by first|exact .inl abd|exact .inr abd) (by rw [isSubtype_type];kernel_rfl)
def vS:Slot "map" "__init__" "object.__init__":=
 .of (owner:="object") (n:="__init__") (by rw [typeLookup_type,builtinLookup_eq_fast];kernel_rfl) abd abd abd
  (by first|exact .inl abd|exact .inr abd) (by rw [isSubtype_type];kernel_rfl)
def oX:entryFor table "map.__next__"=some Builtin.«map.__next__»:=entryFor_of_tree (by kernel_rfl)
def vU:entryFor table "map.__new__"=some Builtin.«map.__new__»:=entryFor_of_tree (by kernel_rfl)
def uC:entryFor table "map.__iter__"=some Builtin.«dict_keyiterator.__iter__»:=
 entryFor_alias (id':="dict_keyiterator.__iter__") (by kernel_rfl) (by first|rfl|decide+kernel|(unfold String.splitOn;simp+decide [String.splitOnAux])) abd (by kernel_rfl)
def pO (a:Value):argsOk "map.__next__" ⟨[a],[]⟩:=by unfold argsOk;kernel_rfl
def vV (a:Value):argsOk "map.__iter__" ⟨[a],[]⟩:=by unfold argsOk;kernel_rfl
def Bp:mroOf (.type "map")=pure [.type "map",.type "object"]:=by rw [mroOf_type];kernel_rfl
def uD:typeLookup (.type "map") "__new__"=pure (some (.builtin "map.__new__")):=by rw [typeLookup_type,builtinLookup_eq_fast];kernel_rfl
def Bq:TypeCalled "map" "map.__new__" "object.__init__":=
 ⟨by decide+kernel,by decide+kernel,⟨_,_,Bp⟩,madeBy_type Bp uD abd,by decide+kernel,by rw [isSubtype_type];kernel_rfl,vS⟩
def uE (a b:Value):checkTypeCall "map" ⟨[a,b],[]⟩=pure ():=by kernel_rfl
def vW (a b:Value):checkBuiltinCall "map.__new__" ⟨[.type "map",a,b],[]⟩=pure ():=by kernel_rfl
def Ip:isSubtype (.type "map") (.type "map")=pure true:=by rw [isSubtype_type];kernel_rfl
def Br:typeLookup (.type "map") "__len__"=pure none:=by rw [typeLookup_type,builtinLookup_eq_fast];kernel_rfl
def zO:typeLookup (.type "map") "__length_hint__"=pure none:=by rw [typeLookup_type,builtinLookup_eq_fast];kernel_rfl
abbrev zP (h:Heap) (I T:Addr) (f:Value):Prop:=h.get? I=some {cls:=.type "map",dict:=none,data:=.fields #[.ref T,f],slots:=#[]}
abbrev DI (h:Heap) (T:Addr) (a:Value):Prop:=h.get? T=some {cls:=.type "tuple",data:=.seq #[a]}
noncomputable abbrev zQ (h:Heap) (l:Addr):Heap:=h.push {cls:=.type "list_iterator",data:=.fields #[.ref l,.int 0 0]}
abbrev zR (h:Heap) (l:Addr):Heap:=(zQ h l).push {cls:=.type "tuple",data:=.seq #[.ref h.objs.size]}
abbrev rt (h:Heap) (l:Addr) (f:Value):Heap:=(zR h l).push {cls:=.type "map",data:=.fields #[.ref (zQ h l).objs.size,f]}
def vX (f:Value) (l:Addr) (xs:Array Value):
  Meets (Builtin.«map.__new__» ⟨[.type "map",f,.ref l],[]⟩) (λ ξ R s=>s.heap.IsList l xs/\R (.ok (.ret (.ref (zR s.heap l).objs.size))) {s with heap:=rt s.heap l f}):=
 .of_wp λ prog w A R s h=>by
  obtain ⟨hp,g,d,tk,os⟩:=s;refine cO h λ nK h=>?_;have gz:=Ip;have Oq:Heap.IsList (Shared.heap ⟨hp,g,d,tk,os⟩) l xs:=nK
  wp_walk using wpAny_pyIter_list Oq
  exact ⟨_,rfl,h⟩
def vY {T l:Addr} {f x:Value} {Q:Value->Shared->Prop} (hI:zP s.heap I T f) (hT:DI s.heap T (.ref it)) (h1:s.heap.IsListIter it l i) (hl:s.heap.IsList l items) (hx:items[i]? =some x)
  (ZG:I≠it) (X3:T≠it)
  (hq:∀h',h'.IsListIter it l (i+1)->Heap.SameBut it s.heap h'->wpAny (model XX w) A (call f [x]) Q E {s with heap:=h'}):
  wpAny (model XX w) A (Builtin.«map.__next__» ⟨[.ref I],[]⟩) (λ fin s'=>∃v,fin= .done (.ret v)/\Q v s') E s:=by
 show wpAny _ _ (field (.ref I) 0>>=_) _ _ _;refine Z4 (wpAny_field hI rfl (x:=.ref T) rfl ?_);refine Z4 (wpAny_seqItems hT rfl ?_);refine Z4 ?_;show wpAny _ _ (forIn (#[Value.ref it]:Array Value) _ _) _ _ _;rw [<-Array.forIn_toList];rw [List.forIn_cons];refine Z4 (Z4 (XG ?_));refine wpAny_nextOf_list_item h1 hl hx λ dJ Ot tu=>?_;refine X5 (X5 ?_);have vZ:zP dJ I T f:=(tu.2 _ ZG).trans hI;refine Z4 (wpAny_field vZ rfl (x:=f) rfl (Z4 (XG ?_)));refine Zh (hq dJ Ot tu) (λ v s' q=>Z4 (wpAny_letGo (X5 ⟨v,rfl,q⟩))) λ ξ ξ e=>e
def xY {T l:Addr} {f:Value} {Q:Fin->Shared->Prop} (hh:A.handled=none) (hI:zP s.heap I T f) (hT:DI s.heap T (.ref it)) (h1:s.heap.IsListIter it l i) (hl:s.heap.IsList l items) (hx:items[i]? =none)
  (hq:∀h' e,(∀b o,b≠it->s.heap.get? b=some o->h'.get? b=some o)->(∃o,h'.get? e=some o/\o.cls= .type "StopIteration")->E (.ref e) {s with heap:=h'}):
  wpAny (model XX w) A (Builtin.«map.__next__» ⟨[.ref I],[]⟩) Q E s:=by
 show wpAny _ _ (field (.ref I) 0>>=_) _ _ _;refine Z4 (wpAny_field hI rfl (x:=.ref T) rfl ?_);refine Z4 (wpAny_seqItems hT rfl ?_);refine Z4 ?_;show wpAny _ _ (forIn (#[Value.ref it]:Array Value) _ _) _ _ _;rw [<-Array.forIn_toList];simp only [List.forIn_cons,List.forIn_nil];refine Z4 (Z4 (XG ?_));exact wpAny_nextOf_list_end hh h1 hl hx λ dJ e tu he=>hq dJ e tu he
def DJ {T l:Addr} {f:Value} {base:Heap} {P:Nat->Value->Prop} (hh:A.handled=none) (ZG:I≠it) (X3:T≠it) (nl:l≠it) (hb:base.get? it=none)
  (hf:∀i x (s:Shared) (Q:Value->Shared->Prop) (E:Value->Shared->Prop),items[i]? =some x->XN base s.heap->(∃o,s.heap.get? it=some o)->(∀v s',P i v->Keeps s s'->Q v s')->wpAny (model XX w) A.in1 (call f [x]) Q E s):
  Walks XX w A I (I::T::it::l::List.range base.objs.size) [it] items.size P (λ i h=>zP h I T f/\DI h T (.ref it)/\h.IsListIter it l i/\h.IsList l items/\XN base h) where
 sub:=λ b hb=>Ym _ (Ym _ (bL (l::List.range base.objs.size) hb))
 frame:=λ i h h' st hk=>by refine n6 st λ a1 a2 a3 a4 a5=>?_;exact ⟨hk I di _ a1,hk T (Ym _ di) _ a2,a3.at λ o e=>hk it (Ym _ (Ym _ di)) o e,a4.at λ o e=>hk l (Ym _ (Ym _ (Ym _ di))) o e,λ b o e=>hk b (Ym _ (Ym _ (Ym _ (Ym _ (List.mem_range.mpr (Heap.lt_size e)))))) o (a5 b o e)⟩
 item:=λ i s Q E hi st hQ=>by
  refine n6 st λ a1 a2 a3 a4 a5=>?_;have hT:s.TypeIs (.ref I) "map":=⟨_,a1,rfl⟩;unfold pyNext;refine Z4 (wpAny_attempt (wpAny_callSpecial?_slot (name:=Str.ofString "__next__") hT iY
   (wpAny_call_entry iY hT oX (vY a1 a2 a3 a4 (x:=items[i]) (by simp [hi]) ZG X3 λ h' sr hs=>?_) (pO _))))
  have dS:XN base h':=λ b o e=>(hs.2 b λ q=>by rw [q,hb] at e;cases e).trans (a5 b o e);refine hf i items[i] _ _ _ (by simp [hi]) dS (by refine aK sr λ o e ξ=>?_;exact ⟨o,e⟩) λ v s' pv k=>?_;refine bu k λ dJ tk dI kk=>?_;subst dI;refine X5 (hQ v dJ tk pv ⟨kk _ _ ((hs.2 _ ZG).trans a1),kk _ _ ((hs.2 _ X3).trans a2),sr.at λ o e=>kk _ _ e,(a4.extBut hs.extBut nl).at λ o e=>kk _ _ e,dS.trans kk⟩ λ b o n e=>?_);exact kk _ _ ((hs.2 b λ q=>n (List.mem_singleton.mpr q)).trans e)
 done:=λ s Q E st hQ=>by
  refine n6 st λ a1 a2 a3 a4 a5=>?_;have hT:s.TypeIs (.ref I) "map":=⟨_,a1,rfl⟩;unfold pyNext;refine Z4 (wpAny_attempt (wpAny_callSpecial?_slot (name:=Str.ofString "__next__") hT iY
   (wpAny_call_entry iY hT oX (xY hh a1 a2 a3 a4 (by simp) λ h' e hk he=>?_) (pO _))))
  refine aK he λ o ho hc=>?_;refine Z4 (wpAny_isInstance (T:="StopIteration") (b:=true) ⟨o,ho,hc⟩ isSubtype_stop ?_);exact X5 (hQ h' _ λ b o n e=>hk b o (λ q=>n (List.mem_singleton.mpr q)) e)
 self:=λ i s Q E st hQ=>by refine cO st λ a1 ξ=>?_;have hT:s.TypeIs (.ref I) "map":=⟨_,a1,rfl⟩;refine wpAny_pyIter_slot hT pN (wpAny_call_entry pN hT uC ?_ (vV _));show wpAny _ _ (ret (.ref I)) _ _ s;exact X5 ⟨_,rfl,"map",_,hT,iY.lookup,hQ⟩
section
variable {G:Array GenState->Array GenState->Prop} {P:Nat->Value->Prop}
def zS {Q:List Value->Shared->Prop} (W:WalksS XX w A.in1 I fp wr G n P St) (hT:∀i s,St i s->s.TypeIs (.ref I) "map") (fh:St 0 s) (kX:∀b∈fp,b<s.heap.objs.size) (hI:I∈fp)
  (hQ:∀s' aO,Moved wr G s s'->ItemsOf P aO n->Q aO.toList s') (hn:n<=sizeLine):wpAny (model XX w) A (collect (.ref I)) Q E s:=by
 have tv:s.heap.objs.size∉fp:=λ hm=>Nat.lt_irrefl _ (kX _ hm);have Iq:s.heap.objs.size≠I:=λ e=>tv (e▸hI);unfold collect;refine Z4 (wpAny_runValue (codeAny_builtin PySem.F.entry_proto_collect ?_));rw [Around.under_plainId PySem.F.plain_proto_collect _];show wpAny _ A.in1 (newList []>>=λ l=>again (.builtin "list.__iadd__" ⟨[l,.ref I],[]⟩)) _ _ s;refine Z4 (wpAny_newObj_type ?_);refine X5 ⟨plainId_quiet PySem.F.plain_list_iadd _,codeAny_builtin PySem.F.entry_list_iadd ?_⟩;rw [Around.under_plainId PySem.F.plain_list_iadd _];have lU:=W.frame 0 s (s.heap.push {cls:=.type "list",data:=.seq ([]:List Value).toArray}) s.toks fh (Nat.le_refl _) λ b ξ o e=>cN _ e;show wpAny _ A.in1 (Builtin.List.listExtendWith (.ref s.heap.objs.size) (.ref I) (.ref s.heap.objs.size)) _ _ _;unfold Builtin.List.listExtendWith;refine Z4 (wpAny_typeOf (hT 0 _ lU) ?_);have h1:Builtin.List.listSameRef (.ref s.heap.objs.size) (.ref I)=false:=by simp [Builtin.List.listSameRef,Iq]
 have h2:(Value.type "map"==Value.type "list")=false:=by decide
 have h3:(Value.type "map"==Value.type "tuple")=false:=by decide
 rw [h1,h2,h3,if_neg bH];refine Z4 (W.self 0 _ _ _ lU ?_);refine Z4 (XG ?_);unfold Builtin.List.listLengthHint;refine Z4 (wpAny_specialOf (hT 0 _ lU) Br ?_);show wpAny _ A.in1 (specialOf (Value.ref I) (Str.ofString "__length_hint__")>>=_) _ _ _;refine Z4 (wpAny_specialOf (hT 0 _ lU) zO ?_);refine X5 ?_;show wpAny _ A.in1 (rule "list.extend.makes-room">>=λ ξ=>Builtin.List.listTouch (.ref s.heap.objs.size)>>=λ ξ=>
  again (.builtin "list.extend.loop" ⟨[.ref s.heap.objs.size,.ref I,.ref s.heap.objs.size],[]⟩)) _ _ _
 refine Z4 (wpAny_rule ?_);have zT:(s.heap.push {cls:=.type "list",data:=.seq ([]:List Value).toArray}).get? s.heap.objs.size=some {cls:=.type "list",data:=.seq ([]:List Value).toArray}:=Heap.get?_push_size _ rfl;refine Z4 ?_;show wpAny _ A.in1 (updateSeq s.heap.objs.size (·.push .none)>>=λ ξ=>updateSeq s.heap.objs.size (·.pop)) _ _ _;refine Z4 (wpAny_updateSeq zT rfl ?_);have zU:=Heap.get?_update_self (Obj.mapSeq (·.push Value.none)) zT rfl;refine wpAny_updateSeq zU rfl ?_;have v3:=Heap.get?_update_self (Obj.mapSeq (·.pop)) zU rfl;have Q4:∀b o,b≠s.heap.objs.size->(s.heap.push {cls:=.type "list",data:=.seq ([]:List Value).toArray}).get? b=some o->
   (((s.heap.push {cls:=.type "list",data:=.seq ([]:List Value).toArray}).update s.heap.objs.size (Obj.mapSeq (·.push Value.none))).update s.heap.objs.size (Obj.mapSeq (·.pop))).get? b=some o:=
  λ b o hb e=>(Heap.get?_update_other _ _ (Ne.symm hb)).trans ((Heap.get?_update_other _ _ (Ne.symm hb)).trans e)
 refine X5 ⟨plainId_quiet PySem.F.plain_extend_loop _,codeAny_extend_loopS W hn _ tv _ n 0 _ _ _ rfl (Nat.zero_le _)
  (W.frame 0 ({s with heap:=s.heap.push {cls:=.type "list",data:=.seq ([]:List Value).toArray}}:Shared) _ s.toks lU (Nat.le_refl _) λ b hb o e=>Q4 b o (λ h=>tv (h▸hb)) e) v3 (ItemsOf.nil P) λ s' Ir c' hm je yJ=>?_⟩
 show wpAny _ A (load s.heap.objs.size>>=_) _ _ s';refine Z4 (wpAny_load je ?_);refine X5 (hQ s' Ir (Moved.drop_new (o:={cls:=.type "list",data:=.seq ([]:List Value).toArray}) (tk:=s.toks) (Moved.trans W.gtrans ((Moved.refl W.grefl).then_heap (by first|exact Nat.le_refl _|exact Nat.le_succ _|w_up) λ b o hb e=>?_) hm) (Nat.le_refl _)) yJ);exact Q4 b o (λ h=>hb (h▸List.mem_cons_self)) e
def uF {Q:Value->Shared->Prop} (W:WalksS XX w A.in1.in1.in1 I fp wr G n P St) (hT:∀i s,St i s->s.TypeIs (.ref I) "map") (fh:St 0 s) (kX:∀b∈fp,b<s.heap.objs.size) (hI:I∈fp)
  (hQ:∀s' aO,Moved wr G s s'->ItemsOf P aO n->Q (.ref s'.heap.objs.size) {s' with heap:=s'.heap.push {cls:=.type "tuple",data:=.seq aO}}) (hsz:n<=sizeLine):
  wpAny (model XX w) A (call (.type "tuple") [.ref I]) Q E s:=by
 refine callType_codes (Q₁:=λ obj aj=>aj.TypeIs obj "tuple"/\Q obj aj) PySem.F.called_tuple (PySem.F.typeCall_tuple_1 _) PySem.F.entry_object_init ?_ λ obj aj dg=>
  ⟨dg.1,PySem.F.args_object_init_2 obj _,object_init_meets PySem.F.called_tuple.init.lookup PySem.F.called_tuple.made bH XX w A.in1 _ aj ⟨dg.1,rfl,dg.2⟩⟩
 refine codeAny_of_tree ?_;show wpAny _ A.in1.in1 (do checkBuiltinCall "tuple.__new__" ⟨[.type "tuple",.ref I],[]⟩;again (.builtin "tuple.__new__" ⟨[.type "tuple",.ref I],[]⟩)) _ _ s;refine Z4 (wpAny_of_eq (PySem.F.newCall_tuple_1 _) (X5 ⟨plainId_quiet PySem.F.plain_tuple_new _,codeAny_builtin PySem.F.entry_tuple_new ?_⟩));rw [Around.under_plainId PySem.F.plain_tuple_new _];have gz:=sub_tuple_self;have UK:=init_tuple_lookup;have Xf:=madeHere_tuple;have Gy:=hT 0 s fh
 wp_walk using wpAny_typeOf Gy,zS (hn:=hsz) W hT fh kX hI
 intro s' aO hm yJ;show wpAny _ _ (Builtin.Tuple.tupleExact aO.toList.toArray>>=λ v=>ret v) _ _ _;unfold Builtin.Tuple.tupleExact;refine Z4 (wpAny_newObj_type ?_ (by show aO.toList.toArray.size<=sizeLine;simp only [Array.toArray_toList];rw [yJ.1];exact hsz));refine X5 ?_;have e:aO.toList.toArray=aO:=by simp
 rw [e];exact ⟨⟨_,Heap.get?_push_size _ rfl,rfl⟩,hQ s' aO hm yJ⟩
end
def oA {f:Value} {np:Pos} {aE:List Expr} {Q:Value->Shared->Prop} (hf:Ev A sc ρ (.Name nm np) (lit f)) (c:XK sc ρ S aa s.heap) (hp:eT aE) (hk:vh f)
  (k:∀aj,Keeps s aj->XK sc ρ S aa aj.heap->wpAny (model XX w) A (spliced (backTo ar (starEach aE aa))) (λ vs aA=>er aA.heap/\wpAny (model XX w) A (call f vs []) Q E aA) E aj):
  wpAny (model XX w) A (eval (.Call (.Name nm np) aE [] ar) aa) Q E s:=by
 show wpAny _ A (do callWith ar (<-eval (.Name nm np) aa) [] (backTo ar (starEach aE aa)) []) _ _ s;refine Z4 (hf.use c λ v aj k₁ c₁ aZ=>?_);rw [show v=f from aZ];exact eg (hp aa ar) (Zh (k aj k₁ c₁) (λ vs aA q=>⟨hk.ok q.1,q.2⟩) λ ξ ξ e=>e)
def xZ {ai:List Tx} {t1 t2:Str} {p1 p2 p3 p4:Pos} {abc aa2:Expr} (abx:cy (n+5) A) (hT:Ev A sc ρ (.Name t1 p1) (lit (.type "tuple"))) (hM:Ev A sc ρ (.Name t2 p2) (lit (.type "map"))) (ha:nE A sc ρ [abc,aa2] [lit (.ref f),is ai]) (hp:eT [abc,aa2])
  (uy:eT [.Call (.Name t2 p2) [abc,aa2] [] p3]) (fh:∀aa,starEach [.Call (.Name t2 p2) [abc,aa2] [] p3] aa=(false,eval (.Call (.Name t2 p2) [abc,aa2] [] p3) aa)::starEach [] aa)
  (hz:ai.length<=sizeLine) (hf:∀A',cy (n+1) A'->∀t∈ai,fJ A' (.ref f) [is t] (is t)):
  Ev A sc ρ (.Call (.Name t1 p1) [.Call (.Name t2 p2) [abc,aa2] [] p3] [] p4) (f5 (ai.map is)):=λ S aa s c=>by
 refine oA hT c uy trivial λ az t8 qX=>?_;refine j7 (he:=fh aa) ?_;refine oA hM qX hp trivial λ zF k₁ c₁=>?_;refine Zh (ha S aa p3 zF c₁) (λ vs aj q=>?_) eY;refine cO q λ aaC aax=>?_;have c₂:=c₁.mono (kle aaC);refine ⟨c₂.top.mono ao,?_⟩;refine bU aax.two λ u v gG pu pv=>?_;subst gG;rw [show u= .ref f from pu];refine bw (is_list.mp pv) λ l xs m il hl pa=>?_;subst il;have eF:=ed (ao _ _ hl);have e1:=pa.length;rw [Array.length_toList,lm] at e1;refine callType_new Bq bH (uE _ _) (vW _ _) (λ obj=>PySem.F.args_object_init_3 obj _ _) vU (vX _ l xs) ⟨eF,?_⟩;have z1:(zQ aj.heap l).objs.size=aj.heap.objs.size+1:=Heap.size_push ..;have z2:(zR aj.heap l).objs.size=aj.heap.objs.size+2:=by rw [Heap.size_push,z1]
 have Zu:(rt aj.heap l (.ref f)).objs.size=aj.heap.objs.size+3:=by rw [Heap.size_push,z2]
 have g3:(rt aj.heap l (.ref f)).get? (zR aj.heap l).objs.size=some _:=Heap.get?_push_size _ rfl;have g2:(rt aj.heap l (.ref f)).get? (zQ aj.heap l).objs.size=some _:=cN _ (Heap.get?_push_size _ rfl);have g1:(rt aj.heap l (.ref f)).get? aj.heap.objs.size=some _:=cN _ (cN _ (Heap.get?_push_size _ rfl));have zV:XN aj.heap (rt aj.heap l (.ref f)):=λ b o e=>cN _ (cN _ (cN _ e));have c4:@LT.lt Nat _ l aj.heap.objs.size:=Heap.lt_size (ao _ _ hl);show _/\_;refine ⟨⟨_,g3,rfl⟩,?_⟩;rw [z2];rw [z1,z2] at g3;rw [z1] at g2;refine wpAny_items_nil ⟨(c₂.top.mono ao).mono zV,?_⟩;have W:=DJ (A:=A.in1.in1.in1) (I:=aj.heap.objs.size+2) (T:=aj.heap.objs.size+1) (it:=aj.heap.objs.size) (l:=l) (f:=.ref f) (items:=xs) (base:=aj.heap) (P:=λ i v=>∃(t:Tx) (tk:Tok),ai[i]? =some t/\v=Value.str t.s tk) abx.handled
  (by show ¬@Eq Nat _ _;w_up) (by show ¬@Eq Nat _ _;w_up) (by show ¬@Eq Nat _ _;w_up) (get_none (Nat.le_refl _)) (λ i x s Q E hx le sr hk=>?_)
 ·refine uF (n:=xs.size) W.toS (λ i s st=>⟨_,st.1,rfl⟩) ⟨g3,g2,⟨_,g1,rfl,rfl⟩,eF.at λ o e=>zV _ _ e,zV⟩ (λ b hb=>?_) di (λ s' aO mv it=>?_) (by rw [e1];exact hz)
  ·show @LT.lt Nat _ b (rt aj.heap l (.ref f)).objs.size;rw [Zu];simp only [List.mem_cons,List.mem_range] at hb;rcases hb with h|h|h|h|h
   ·have:@Eq Nat b _:=h;w_up
   ·have:@Eq Nat b _:=h;w_up
   ·have:@Eq Nat b _:=h;w_up
   ·have:@Eq Nat b _:=h;w_up
   ·w_up
  ·have ks:Keeps s aj:=aL (aL t8 k₁) aaC;have Q5:∀b o,aj.heap.get? b=some o->s'.heap.get? b=some o:=λ b o e=>mv.heap b o (λ m=>by rw [bj m,get_none (Nat.le_refl _)] at e;cases e) (zV _ _ e)
   have gA:s'={aj with heap:=s'.heap,toks:=s'.toks}:=by obtain ⟨h',g',d',t',o'⟩:=s';have h1:g'=aj.gens:=mv.gens;have h2:d'=aj.drawn:=mv.drawn;have h3:o'=aj.os:=mv.os;subst h1 h2 h3;rfl
   have kk:Keeps s {s' with heap:=s'.heap.push {cls:=.type "tuple",data:=.seq aO}}:=by refine aL ks (aL (s':=s') ⟨s'.heap,s'.toks,gA,Q5⟩ ⟨_,_,rfl,λ b o e=>cN _ e⟩)
   refine ⟨kk,_,aO,0,rfl,eZ (s:=s') (S:=S) (λ b hb=>?_) rfl,?_⟩
   ·refine aM (c₂.b4 b hb) λ o e=>?_;exact ⟨o,Q5 _ _ e⟩
   ·have hsz:aO.toList.length=ai.length:=by rw [Array.length_toList,it.1,e1]
    have a8:∀(ts:List Tx) (vs:List Value) (g:Heap),vs.length=ts.length->(∀(j:Nat) (v:Value),vs[j]? =some v->∃(t:Tx) (tk:Tok),ts[j]? =some t/\v=Value.str t.s tk)->AllP g (ts.map is) vs:=by
     intro ts;induction ts with
     |nil=>intro vs g h _;cases vs with
      |nil=>trivial
      |cons _ _=>cases h
     |cons t ts ih=>intro vs g h q;cases vs with
      |nil=>cases h
      |cons v vs=>
       refine bu (q 0 v rfl) λ t' tk h1 h2=>?_;cases h1;exact ⟨bz.mpr ⟨tk,h2⟩,ih vs g (Nat.succ.inj h) λ j u hj=>q (j+1) u (by simpa using hj)⟩
    exact a8 ai aO.toList _ hsz λ j v hj=>it.2 j v (by simpa using hj)
 ·have hi:i<ai.length:=by rw [<-e1];exact (Array.getElem?_eq_some_iff.mp hx).1
  refine aK (pa.get (i:=i) (P:=is ai[i]) (by rw [List.getElem?_map];simp [hi])) λ u' h1 h2=>?_;have hu:u'=x:=by rw [Array.getElem?_toList] at h1;exact Option.some.inj (h1.symm.trans hx)
  subst hu;have dS:XN (hide S aj.heap) (hide (aj.heap.objs.size::S) s.heap):=dH le λ b hb=>by
   rcases cF hb with rfl|hb
   ·exact .inr (get_none (Nat.le_refl _))
   ·exact .inl hb
  refine Zh (hf A.in1.in1.in1.in1 ((((abx.in1).in1).in1).in1) ai[i] (List.getElem_mem hi) (aj.heap.objs.size::S) s [u'] (c₂.top.mono dS) (λ b hb=>?_) ⟨(is ai[i]).mono dS h2,trivial⟩) (λ v s' q=>?_) eY
  ·rcases cF hb with rfl|hb
   ·exact sr
   ·refine aM (c₂.b4 b hb) λ o e=>?_;exact ⟨o,le _ _ e⟩
  ·refine aM (bz.mp q.2) λ t ht=>?_;exact hk v s' ⟨_,t,by simp [hi],ht⟩ q.1
section
open PySem.AutoSeq1 (wpAny_loadPart')
def yK (a b:Tx):Bool:=decide (a.s.cps.toList<b.s.cps.toList)
noncomputable def Iu (f:Tx->Tx->Bool) (g:Nat->Nat->Bool):List Tx->List Tx->Bool
 |x::xs,y::ys=>if x=y then Iu f g xs ys else f x y
 |xs,ys=>g xs.length ys.length
def ru:List Tx->List Tx->Bool:=Iu yK λ m n=>decide (m<n)
def ry:List Tx->List Tx->Bool:=Iu (λ a b=>yK b a) λ m n=>decide (m>n)
def su {vs:Array Value} (p:AllP g (rs.map is) vs.toList) (i:Nat) (hi:i<rs.length):∃t,vs[i]? =some (.str rs[i].s t):=by refine aK (p.get (i:=i) (P:=is rs[i]) (by rw [List.getElem?_map];simp [hi])) λ v h1 h2=>?_;refine aM (bz.mp h2) λ t c7=>?_;subst c7;exact ⟨t,by simpa using h1⟩
def Bs {w:World} {a b:Tx} {t:Tok} {Q:Value->Shared->Prop} (h:Q (.bool (yK a b)) s):wpAny (model prog w) A (richCompare .Lt (.str a.s t) (.str b.s u)) Q E s:=
 richCompare_gives (typeIs_str _ _ _) (typeIs_str _ _ _) PyProof.Rows.slot_str_lt PyProof.Rows.entry_str_lt (PyProof.Rows.args_str_lt _ _) (gives_str_lt a.s b.s t u) (by intro q;cases q) h
def Iv {w:World} {l:Addr} {ys:Array Value} {m:Nat} (k:Nat):∀(i:Nat) (s:Shared) (Q:Value->Shared->Prop) (E:Value->Shared->Prop),rs.length - i=k->i<=rs.length->i<=Yo.length->IsL s.heap l xs m->IsL s.heap b ys m'->AllP g (rs.map is) xs.toList->AllP g (Yo.map is) ys.toList->
  Q (.bool (ru (rs.drop i) (Yo.drop i))) s->codeAny (model prog w) A (.builtin "list.__eq__.loop" ⟨[.ref l,.ref b,rawInt i,rawInt 0],[]⟩) (wants Q E) s:=by
 induction k with
 |zero=>
  intro i s Q E hk h1 h2 hl hb pr aax hq;refine codeAny_builtin PySem.MeetsSeq3.entry_eq_loop ?_;rw [Around.under_plainId PySem.MeetsSeq3.plain_eq_loop _];obtain ⟨hp,aai,d,tk,os⟩:=s;have e1:i=rs.length:=by w_up
  have z1:xs.size=rs.length:=by have:=pr.length;simpa using this
  have z2:ys.size=Yo.length:=by have:=aax.length;simpa using this
  wp_walk using wpAny_loadPart' hl,wpAny_loadPart' hb
  have n1:xs[((i:Nat):Int).toNat]? =none:=by simp;w_up
  rw [n1]
  wp_walk using wpAny_loadPart' hl,wpAny_loadPart' hb
  have e2:ru (rs.drop i) (Yo.drop i)=decide (xs.size<ys.size):=by
   rw [e1,List.drop_length];have e3:(([]:List Tx).length<(Yo.drop rs.length).length)=(xs.size<ys.size):=by rw [List.length_drop,z1,z2];exact propext (by constructor<;>intro h<;>simp at h⊢<;>w_up)
   have e4:ru [] (Yo.drop rs.length)=decide (([]:List Tx).length<(Yo.drop rs.length).length):=rfl;rw [e4];simp only [e3]
  rw [e2] at hq;exact hq
 |succ k ih=>
  intro i s Q E hk h1 h2 hl hb pr aax hq;refine codeAny_builtin PySem.MeetsSeq3.entry_eq_loop ?_;rw [Around.under_plainId PySem.MeetsSeq3.plain_eq_loop _];obtain ⟨hp,aai,d,tk,os⟩:=s;have hi:i<rs.length:=by w_up
  have z1:xs.size=rs.length:=by have:=pr.length;simpa using this
  have z2:ys.size=Yo.length:=by have:=aax.length;simpa using this
  refine aM (su pr i hi) λ t1 x1=>?_;have d1:rs.drop i=rs[i]::rs.drop (i+1):=by rw [List.drop_eq_getElem_cons hi]
  wp_walk using wpAny_loadPart' hl,wpAny_loadPart' hb
  have y1:xs[((i:Nat):Int).toNat]? =some (.str rs[i].s t1):=by simpa using x1
  rw [y1];by_cases hj:i<Yo.length
  ·refine aM (su aax i hj) λ t2 x2=>?_;have d2:Yo.drop i=Yo[i]::Yo.drop (i+1):=by rw [List.drop_eq_getElem_cons hj]
   have y2:ys[((i:Nat):Int).toNat]? =some (.str Yo[i].s t2):=by simpa using x2
   rw [y2];refine Z4 (wpAny_eqBool_str ?_);by_cases he:rs[i]=Yo[i]
   ·have e5:decide (rs[i].s=Yo[i].s)=true:=by rw [he];simp
    rw [e5]
    wp_walk
    have hc:((i:Int)+1)=((i+1:Nat):Int):=by push_cast;rfl
    rw [hc];refine ⟨plainId_quiet PySem.MeetsSeq3.plain_eq_loop _,ih (i+1) _ Q E (by rw [<-Nat.sub_sub,hk];rfl) hi hj hl hb pr aax ?_⟩;rw [d1,d2] at hq;have e6:ru (rs[i]::rs.drop (i+1)) (Yo[i]::Yo.drop (i+1))=ru (rs.drop (i+1)) (Yo.drop (i+1)):=by exact if_pos he
    rw [e6] at hq;exact hq
   ·have e5:decide (rs[i].s=Yo[i].s)=false:=by simp only [decide_eq_false_iff_not];exact λ q=>he (Tx.lu q)
    rw [e5]
    wp_walk using wpAny_loadPart' hl,wpAny_loadPart' hb
    rw [y1,y2];refine Z4 (Bs ?_);rw [d1,d2] at hq;have e6:ru (rs[i]::rs.drop (i+1)) (Yo[i]::Yo.drop (i+1))=yK rs[i] Yo[i]:=by exact if_neg he
    rw [e6] at hq;exact X5 hq
  ·have n2:ys[((i:Nat):Int).toNat]? =none:=by simp;w_up
   rw [n2]
   wp_walk using wpAny_loadPart' hl,wpAny_loadPart' hb
   have e2:ru (rs.drop i) (Yo.drop i)=decide (xs.size<ys.size):=by
    have aaN:Yo.drop i=[]:=List.drop_of_length_le (by w_up);rw [aaN,d1];have e4:ru (rs[i]::rs.drop (i+1)) []=decide ((rs[i]::rs.drop (i+1)).length<([]:List Tx).length):=rfl;rw [e4];have e3:((rs[i]::rs.drop (i+1)).length<([]:List Tx).length)=(xs.size<ys.size):=by rw [List.length_cons,List.length_drop,z1,z2];exact propext (by constructor<;>intro h<;>simp at h⊢<;>w_up)
    simp only [e3]
   rw [e2] at hq;exact hq
def DK {l:Addr} {ys:Array Value} {m:Nat} (pr:AllP g (rs.map is) xs.toList) (aax:AllP g (Yo.map is) ys.toList):
  Meets (Builtin.«list.__lt__» ⟨[.ref l,.ref b],[]⟩) (λ A R s=>IsL s.heap l xs m/\IsL s.heap b ys m'/\R (.ok (.ret (.bool (ru rs Yo)))) s):=by
 intro prog w A R s h;obtain ⟨hp,aai,d,tk,os⟩:=s;refine eU h λ hl hb h=>?_;have abJ:=AutoSeq1.sub_list_list
 wp_walk using wpAny_loadPart' hl,wpAny_loadPart' hb
 refine ⟨plainId_quiet PySem.MeetsSeq3.plain_eq_loop _,?_⟩;refine codeAny_mono (Iv (prog:=prog) (w:=w) (A:=A) (rs:=rs) (Yo:=Yo) _ 0 _ (λ v s'=>R (.ok (.ret v)) s') (λ e s'=>R (.error e) s') rfl (Nat.zero_le _) (Nat.zero_le _) hl hb pr aax (by simpa using h)) λ r s' q=>?_;rcases r with e|(v|_|_|_)<;>first|exact q|exact q.elim
def yL (abx:cy n A):fm A (richCompare .Lt) (is rs) (is Yo) (is (ru rs Yo)):=λ S s a b T fr p q=>by refine bw (is_list.mp p) λ la xs m gG ha pa=>?_;subst gG;refine bw (is_list.mp q) λ lb ys m' il hb pb=>?_;subst il;have uG:=ao _ _ ha;have lB:=ao _ _ hb;exact richCompare_meets_room ⟨_,uG,rfl⟩ ⟨_,lB,rfl⟩ PySem.F.slot_list_lt PySem.F.entry_list_lt (PySem.F.args_list_lt_2 _ _) (DK pa pb) ⟨uG,lB,(by intro q;cases q),cB _,is_bool.mpr rfl⟩ (by have:=abx.units;w_up)
def Bt {w:World} {a b:Tx} {t:Tok} {Q:Value->Shared->Prop} (h:Q (.bool (yK b a)) s):wpAny (model prog w) A (richCompare .Gt (.str a.s t) (.str b.s u)) Q E s:=
 richCompare_gives (typeIs_str _ _ _) (typeIs_str _ _ _) PyProof.Rows.slot_str_gt PyProof.Rows.entry_str_gt (PyProof.Rows.args_str_gt _ _) (gives_str_gt a.s b.s t u) (by intro q;cases q) h
def Iw {w:World} {l:Addr} {ys:Array Value} {m:Nat} (k:Nat):∀(i:Nat) (s:Shared) (Q:Value->Shared->Prop) (E:Value->Shared->Prop),rs.length - i=k->i<=rs.length->i<=Yo.length->IsL s.heap l xs m->IsL s.heap b ys m'->AllP g (rs.map is) xs.toList->AllP g (Yo.map is) ys.toList->
  Q (.bool (ry (rs.drop i) (Yo.drop i))) s->codeAny (model prog w) A (.builtin "list.__eq__.loop" ⟨[.ref l,.ref b,rawInt i,rawInt 4],[]⟩) (wants Q E) s:=by
 induction k with
 |zero=>
  intro i s Q E hk h1 h2 hl hb pr aax hq;refine codeAny_builtin PySem.MeetsSeq3.entry_eq_loop ?_;rw [Around.under_plainId PySem.MeetsSeq3.plain_eq_loop _];obtain ⟨hp,aai,d,tk,os⟩:=s;have e1:i=rs.length:=by w_up
  have z1:xs.size=rs.length:=by have:=pr.length;simpa using this
  have z2:ys.size=Yo.length:=by have:=aax.length;simpa using this
  wp_walk using wpAny_loadPart' hl,wpAny_loadPart' hb
  have n1:xs[((i:Nat):Int).toNat]? =none:=by simp;w_up
  rw [n1]
  wp_walk using wpAny_loadPart' hl,wpAny_loadPart' hb
  have e2:ry (rs.drop i) (Yo.drop i)=decide (xs.size>ys.size):=by
   rw [e1,List.drop_length];have e3:(([]:List Tx).length>(Yo.drop rs.length).length)=(xs.size>ys.size):=by rw [List.length_drop,z1,z2];exact propext (by constructor<;>intro h<;>simp at h⊢<;>w_up)
   have e4:ry [] (Yo.drop rs.length)=decide (([]:List Tx).length>(Yo.drop rs.length).length):=rfl;rw [e4];simp only [e3]
  rw [e2] at hq;exact hq
 |succ k ih=>
  intro i s Q E hk h1 h2 hl hb pr aax hq;refine codeAny_builtin PySem.MeetsSeq3.entry_eq_loop ?_;rw [Around.under_plainId PySem.MeetsSeq3.plain_eq_loop _];obtain ⟨hp,aai,d,tk,os⟩:=s;have hi:i<rs.length:=by w_up
  have z1:xs.size=rs.length:=by have:=pr.length;simpa using this
  have z2:ys.size=Yo.length:=by have:=aax.length;simpa using this
  refine aM (su pr i hi) λ t1 x1=>?_;have d1:rs.drop i=rs[i]::rs.drop (i+1):=by rw [List.drop_eq_getElem_cons hi]
  wp_walk using wpAny_loadPart' hl,wpAny_loadPart' hb
  have y1:xs[((i:Nat):Int).toNat]? =some (.str rs[i].s t1):=by simpa using x1
  rw [y1];by_cases hj:i<Yo.length
  ·refine aM (su aax i hj) λ t2 x2=>?_;have d2:Yo.drop i=Yo[i]::Yo.drop (i+1):=by rw [List.drop_eq_getElem_cons hj]
   have y2:ys[((i:Nat):Int).toNat]? =some (.str Yo[i].s t2):=by simpa using x2
   rw [y2];refine Z4 (wpAny_eqBool_str ?_);by_cases he:rs[i]=Yo[i]
   ·have e5:decide (rs[i].s=Yo[i].s)=true:=by rw [he];simp
    rw [e5]
    wp_walk
    have hc:((i:Int)+1)=((i+1:Nat):Int):=by push_cast;rfl
    rw [hc];refine ⟨plainId_quiet PySem.MeetsSeq3.plain_eq_loop _,ih (i+1) _ Q E (by rw [<-Nat.sub_sub,hk];rfl) hi hj hl hb pr aax ?_⟩;rw [d1,d2] at hq;have e6:ry (rs[i]::rs.drop (i+1)) (Yo[i]::Yo.drop (i+1))=ry (rs.drop (i+1)) (Yo.drop (i+1)):=by exact if_pos he
    rw [e6] at hq;exact hq
   ·have e5:decide (rs[i].s=Yo[i].s)=false:=by simp only [decide_eq_false_iff_not];exact λ q=>he (Tx.lu q)
    rw [e5]
    wp_walk using wpAny_loadPart' hl,wpAny_loadPart' hb
    rw [y1,y2];refine Z4 (Bt ?_);rw [d1,d2] at hq;have e6:ry (rs[i]::rs.drop (i+1)) (Yo[i]::Yo.drop (i+1))=yK Yo[i] rs[i]:=by exact if_neg he
    rw [e6] at hq;exact X5 hq
  ·have n2:ys[((i:Nat):Int).toNat]? =none:=by simp;w_up
   rw [n2]
   wp_walk using wpAny_loadPart' hl,wpAny_loadPart' hb
   have e2:ry (rs.drop i) (Yo.drop i)=decide (xs.size>ys.size):=by
    have aaN:Yo.drop i=[]:=List.drop_of_length_le (by w_up);rw [aaN,d1];have e4:ry (rs[i]::rs.drop (i+1)) []=decide ((rs[i]::rs.drop (i+1)).length>([]:List Tx).length):=rfl;rw [e4];have e3:((rs[i]::rs.drop (i+1)).length>([]:List Tx).length)=(xs.size>ys.size):=by rw [List.length_cons,List.length_drop,z1,z2];exact propext (by constructor<;>intro h<;>simp at h⊢<;>w_up)
    simp only [e3]
   rw [e2] at hq;exact hq
def DL {l:Addr} {ys:Array Value} {m:Nat} (pr:AllP g (rs.map is) xs.toList) (aax:AllP g (Yo.map is) ys.toList):
  Meets (Builtin.«list.__gt__» ⟨[.ref l,.ref b],[]⟩) (λ A R s=>IsL s.heap l xs m/\IsL s.heap b ys m'/\R (.ok (.ret (.bool (ry rs Yo)))) s):=by
 intro prog w A R s h;obtain ⟨hp,aai,d,tk,os⟩:=s;refine eU h λ hl hb h=>?_;have abJ:=AutoSeq1.sub_list_list
 wp_walk using wpAny_loadPart' hl,wpAny_loadPart' hb
 refine ⟨plainId_quiet PySem.MeetsSeq3.plain_eq_loop _,?_⟩;refine codeAny_mono (Iw (prog:=prog) (w:=w) (A:=A) (rs:=rs) (Yo:=Yo) _ 0 _ (λ v s'=>R (.ok (.ret v)) s') (λ e s'=>R (.error e) s') rfl (Nat.zero_le _) (Nat.zero_le _) hl hb pr aax (by simpa using h)) λ r s' q=>?_;rcases r with e|(v|_|_|_)<;>first|exact q|exact q.elim
def yM (abx:cy n A):fm A (richCompare .Gt) (is rs) (is Yo) (is (ry rs Yo)):=λ S s a b T fr p q=>by refine bw (is_list.mp p) λ la xs m jy ha pa=>?_;subst jy;refine bw (is_list.mp q) λ lb ys m' l6 hb pb=>?_;subst l6;have uG:=ao _ _ ha;have lB:=ao _ _ hb;exact richCompare_meets_room ⟨_,uG,rfl⟩ ⟨_,lB,rfl⟩ PySem.F.slot_list_gt PySem.F.entry_list_gt (PySem.F.args_list_gt_2 _ _) (DL pa pb) ⟨uG,lB,(by intro q;cases q),cB _,is_bool.mpr rfl⟩ (by have:=abx.units;w_up)
end
def Gz {R:Result->Shared->Prop} {P:Nat->Value->Prop} {St:Nat->Heap->Prop} {base:Heap} (W:Walks XX w A.in1 I fp wr n P St) (bt:Nat->Nat->Bool) (B:Addr) (Iz:B∉fp) (hw:∀b∈wr,base.get? b=none) (hB:base.get? B=none)
  (v5:∀i j vi Y0 (s:Shared) (Q:Value->Shared->Prop) (E:Value->Shared->Prop),P i vi->P j Y0->XN base s.heap->(∀s',Keeps s s'->Q (.bool (bt i j)) s')->wpAny (model XX w) A.in1 (richCompare .Gt vi Y0) Q E s):
  ∀(k j:Nat) (s:Shared) (vb:Value) (c:Nat),n - (j+1)=k->j+1<=n->St (j+1) s.heap->P (argBest bt j) vb->XN base s.heap->
  s.heap.get? B=some {cls:=.type "list",dict:=none,data:=.seq #[vb,vb] c,slots:=#[]}->
  (∀v h' tk,P (argBest bt (n - 1)) v->(∀b o,b∉wr->b≠B->s.heap.get? b=some o->h'.get? b=some o)->R (.ok (.ret v)) {s with heap:=h',toks:=tk})->
  codeAny (model XX w) A (.builtin "max.loop" ⟨[.ref I,.none,.ref B],[]⟩) R s:=by
 have zW:B∉wr:=λ h=>Iz (W.sub _ h);have jA:(toString "max"++toString ".loop":String)="max.loop":=by decide
 intro k;induction k with
 |zero=>
  intro j s vb c hk hj fh zX le hS hR;have mP:j+1=n:=by omega
  refine codeAny_builtin PySem.F.entry_max_loop ?_;rw [Around.under_plainId PySem.F.plain_max_loop _];show wpAny _ A.in1 (seqItems? (.ref B)>>=_) _ _ s;refine Z4 (wpAny_seqItems hS rfl ?_);show wpAny _ A.in1 (tryCatch (pyNext (.ref I)) _>>=_) _ _ s;refine Z4 (wpAny_tryCatch (W.done s _ _ (mP▸fh) λ h' tk dE=>?_));have je:=dE B _ zW hS;show wpAny _ A.in1 (updateSeq B (λ ξ=>#[])>>=_) _ _ _;refine Z4 ?_;refine wpAny_updateSeq je rfl (Z4 (wpAny_letGo (X5 ?_)));refine hR vb _ tk (by rw [<-mP];exact zX) λ b o nq sx e=>(Heap.get?_update_other _ _ (Ne.symm sx)).trans (dE b o nq e)
 |succ k ih=>
  intro j s vb c hk hj fh zX le hS hR;have c4:j+1<n:=by omega
  refine codeAny_builtin PySem.F.entry_max_loop ?_;rw [Around.under_plainId PySem.F.plain_max_loop _];show wpAny _ A.in1 (seqItems? (.ref B)>>=_) _ _ s;refine Z4 (wpAny_seqItems hS rfl ?_);show wpAny _ A.in1 (tryCatch (pyNext (.ref I)) _>>=_) _ _ s;refine Z4 (wpAny_tryCatch (W.item (j+1) s _ _ c4 fh λ v dg Ou hP lU v7=>?_));have oB:XN base dg:=λ b o e=>v7 b o (λ m=>by rw [hw b m] at e;cases e) (le b o e);show wpAny _ A.in1 (tryCatch (holding [v,v] (richCompare .Gt v vb>>=_)) _>>=_) _ _ _;refine Z4 (wpAny_tryCatch (XG (Z4 (v5 (j+1) (argBest bt j) v vb _ _ _ hP zX oB λ aA k₂=>?_))));refine bu k₂ λ h' DM cX kk=>?_;subst cX;have pP:St (j+1+1) h':=W.frame _ _ _ lU λ b ξ o e=>kk b o e;have dE:∀b o,b∉wr->s.heap.get? b=some o->h'.get? b=some o:=λ b o n e=>kk b o (v7 b o n e);have dS:XN base h':=oB.trans kk;have je:=dE B _ zW hS;refine Z4 (XG (wpAny_truthy_bool ?_));refine Z4 (wpAny_letGo (X5 ?_));cases hb:bt (j+1) (argBest bt j) with
  |true=>
   rw [if_pos rfl];refine Z4 ?_;refine wpAny_updateSeq je rfl (Z4 (wpAny_letGo ?_));rw [jA];refine X5 ⟨plainId_quiet PySem.F.plain_max_loop _,ih (j+1) _ v _ (by omega) c4 (W.frame _ _ _ pP λ b DN o e=>?_) (by simp only [argBest,hb,if_true];exact hP) (λ b o e=>?_) (Heap.get?_update_self _ je rfl)
    λ v' rz pQ v8 pR=>?_⟩
   ·exact (Heap.get?_update_other _ _ (λ h:B=b=>Iz (by rw [h];exact DN))).trans e
   ·exact (Heap.get?_update_other _ _ (λ h:B=b=>by rw [<-h,hB] at e;cases e)).trans (dS b o e)
   ·exact hR v' rz pQ v8 λ b o nq sx e=>pR b o nq sx ((Heap.get?_update_other _ _ (Ne.symm sx)).trans (dE b o nq e))
  |false=>
   rw [if_neg bH];refine Z4 (wpAny_letGo ?_);rw [jA];refine X5 ⟨plainId_quiet PySem.F.plain_max_loop _,ih (j+1) _ vb c (by omega) c4 pP (by simp only [argBest,hb,Bool.false_eq_true,if_false];exact zX) dS je λ v' rz pQ v8 pR=>?_⟩;exact hR v' rz pQ v8 λ b o nq sx e=>pR b o nq sx (dE b o nq e)
def GA {x:Value} {Q:Value->Shared->Prop} {base:Heap} (Ov:base.objs.size<=s.heap.objs.size)
  (h:wpAny (model XX w) A.in1 (pyIter x) (λ it aA=>Keeps s aA/\∃I fp wr n P St bt,it= .ref I/\Walks XX w A.in1 I fp wr n P St/\St 0 aA.heap/\(∀b∈fp,b<aA.heap.objs.size)/\0<n/\(∀b∈wr,base.get? b=none)/\XN base aA.heap/\
   (∀i j vi Y0 (s:Shared) (Q:Value->Shared->Prop) (E:Value->Shared->Prop),P i vi->P j Y0->XN base s.heap->(∀s',Keeps s s'->Q (.bool (bt i j)) s')->wpAny (model XX w) A.in1 (richCompare .Gt vi Y0) Q E s)/\
   ∀v h' tk,P (argBest bt (n - 1)) v->(∀b o,b∉wr->aA.heap.get? b=some o->h'.get? b=some o)->Q v {aA with heap:=h',toks:=tk}) E s):
  wpAny (model XX w) A (call (.builtin "max") [x]) Q E s:=by
 have jA:(toString "max"++toString ".loop":String)="max.loop":=by decide
 refine call_function_tree PySem.F.kind_max PySem.F.plain_max PySem.F.entry_max (PySem.F.args_max1 _) ?_;show wpAny _ A.in1 (Builtin.Builtins.bindParams "max" ["key","default"] 0 ⟨[],[]⟩>>=_) _ _ s;refine Z4 (wpAny_of_eq (show Builtin.Builtins.bindParams "max" ["key","default"] 0 ⟨[],[]⟩=pure [none,none] from rfl) ?_);refine Z4 (X5 ?_);refine Z4 (Zh h (λ it aA dJ=>?_) λ ξ ξ e=>e);obtain ⟨k₂,I,fp,wr,n,P,St,bt,rfl,W,fh,kX,hn,hw,le,v5,hQ⟩:=dJ;refine Z4 (wpAny_newObj_type ?_);have tv:aA.heap.objs.size∉fp:=λ hm=>Nat.lt_irrefl _ (kX _ hm);rw [jA];have IA:base.get? aA.heap.objs.size=none:=by
  cases e:base.get? aA.heap.objs.size with
  |none=>rfl
  |some o=>exact absurd (Heap.lt_size (le _ _ e)) (Nat.lt_irrefl _)
 generalize hB:aA.heap.objs.size=B at*;have v9:(aA.heap.push {cls:=.type "list",data:=.seq ([]:List Value).toArray}).get? B=some {cls:=.type "list",data:=.seq ([]:List Value).toArray}:=by rw [<-hB];exact Heap.get?_push_size _ rfl
 have zW:B∉wr:=λ h=>tv (W.sub _ h);refine X5 ⟨plainId_quiet PySem.F.plain_max_loop _,codeAny_builtin PySem.F.entry_max_loop ?_⟩;rw [Around.under_plainId PySem.F.plain_max_loop _];show wpAny _ A.in1 (seqItems? (.ref B)>>=_) _ _ _;refine Z4 (wpAny_seqItems v9 rfl ?_);show wpAny _ A.in1 (tryCatch (pyNext (.ref I)) _>>=_) _ _ _;refine Z4 (wpAny_tryCatch (W.item 0 _ _ _ hn (W.frame _ _ _ fh λ b ξ o e=>cN _ e) λ v h' tk hP pP dE=>?_));have je:=dE B _ zW v9;show wpAny _ A.in1 (updateSeq B (λ ξ=>#[v,v])>>=_) _ _ _;refine Z4 ?_;refine wpAny_updateSeq je rfl ?_;rw [jA];have back:∀b o,aA.heap.get? b=some o->b≠B:=λ b o e q=>by rw [q,<-hB,get_none (Nat.le_refl _)] at e;cases e
 refine X5 ⟨plainId_quiet PySem.F.plain_max_loop _,Gz W bt B tv hw IA v5 _ 0 _ v _ rfl hn (W.frame _ _ _ pP λ b DN o e=>?_) hP (λ b o e=>?_) (Heap.get?_update_self _ je rfl) λ v' rz pQ v8 pR=>?_⟩
 ·exact (Heap.get?_update_other _ _ (λ h:B=b=>tv (by rw [h];exact DN))).trans e
 ·exact (Heap.get?_update_other _ _ (λ h:B=b=>by rw [<-h,IA] at e;cases e)).trans (dE b o (λ m=>by rw [hw b m] at e;cases e) (cN _ (le b o e)))
 ·exact hQ v' rz pQ v8 λ b o nq e=>pR b o nq (back b o e) ((Heap.get?_update_other _ _ (Ne.symm (back b o e))).trans (dE b o nq (cN _ e)))
def Fw {ai:List ι} {abL:ι->YJ} {bt:Nat->Nat->Bool} (hh:A.handled=none) (hn:0<ai.length)
  (hc:∀i j (hi:i<ai.length) (hj:j<ai.length),fm A.in1 (richCompare .Gt) (abL ai[i]) (abL ai[j]) (is (bt i j))) (hb:∀k,k<ai.length->argBest bt k<ai.length) {a:ι} (ha:ai[argBest bt (ai.length - 1)]? =some a):
  fJ A (.builtin "max") [cH (ai.map abL)] (abL a):=λ S s vs T fr p=>by
 refine aK p.one λ v d6 pv=>?_;subst d6;refine bw pv λ l xs m dI hl pa=>?_;subst dI;have eF:=ao _ _ hl;have e1:=pa.length;rw [Array.length_toList,lm] at e1;have c4:@LT.lt Nat _ l s.heap.objs.size:=Heap.lt_size eF;refine GA (base:=s.heap) (Nat.le_refl _) (wpAny_pyIter_list (ed eF) ⟨gK _ _ _,s.heap.objs.size,[s.heap.objs.size,l],[s.heap.objs.size],ai.length,λ i v=>xs[i]? =some v,λ i h=>h.IsListIter s.heap.objs.size l i/\h.IsList l xs,bt,rfl,?_,⟨⟨_,Heap.get?_push_size _ rfl,rfl,rfl⟩,(ed eF).push _⟩,?_,hn,?_,λ b o e=>cN _ e,?_,?_⟩)
 ·have W:=Walks.list (prog:=XX) (w:=w) (A:=A.in1) hh s.heap.objs.size l (Nat.ne_of_lt c4) xs;rw [e1] at W;exact W
 ·intro b hb;show b<(s.heap.push _).objs.size;rw [Heap.size_push];rcases cF hb with rfl|hb
  ·exact Nat.lt_succ_self _
  ·rw [bj hb];exact Nat.lt_succ_of_lt c4
 ·intro b hb;rw [bj hb];exact get_none (Nat.le_refl _)
 ·intro i j vi Y0 aj Q E pi pj le k;have hi:i<ai.length:=by rw [<-e1];exact (Array.getElem?_eq_some_iff.mp pi).1
  have hj:j<ai.length:=by rw [<-e1];exact (Array.getElem?_eq_some_iff.mp pj).1
  refine aK (pa.get (i:=i) (P:=abL ai[i]) (by rw [List.getElem?_map];simp [hi])) λ u h1 h2=>?_;refine aK (pa.get (i:=j) (P:=abL ai[j]) (by rw [List.getElem?_map];simp [hj])) λ u' vq nG=>?_;have hu:u=vi:=by rw [Array.getElem?_toList] at h1;exact Option.some.inj (h1.symm.trans pi)
  have Ow:u'=Y0:=by rw [Array.getElem?_toList] at vq;exact Option.some.inj (vq.symm.trans pj)
  subst hu Ow;have dS:XN (hide S s.heap) (hide S aj.heap):=aJ le;exact Zh (hc i j hi hj S aj u u' (T.mono dS) (λ b hb=>let ⟨o,e⟩:=fr b hb;⟨o,le _ _ e⟩) ((abL _).mono dS h2) ((abL _).mono dS nG)) (λ v aA q=>by rw [is_bool.mp q.2];exact k aA q.1) eY
 ·intro v h' tk pv bq;have kk:∀b o,s.heap.get? b=some o->h'.get? b=some o:=λ b o e=>bq b o (λ m=>by rw [bj m,get_none (Nat.le_refl _)] at e;cases e) (cN _ e);refine aK (pa.get (i:=argBest bt (ai.length - 1)) (P:=abL a) (by rw [List.getElem?_map,ha];rfl)) λ u h1 h2=>?_;have hu:u=v:=by rw [Array.getElem?_toList] at h1;exact Option.some.inj (h1.symm.trans pv)
  subst hu;exact ⟨⟨h',tk,rfl,kk⟩,(abL _).mono (aJ kk) h2⟩
def GB {R:Result->Shared->Prop} {P:Nat->Value->Prop} {St:Nat->Heap->Prop} {base:Heap} (W:Walks XX w A.in1 I fp wr n P St) (bt:Nat->Nat->Bool) (B:Addr) (Iz:B∉fp) (hw:∀b∈wr,base.get? b=none) (hB:base.get? B=none)
  (v5:∀i j vi Y0 (s:Shared) (Q:Value->Shared->Prop) (E:Value->Shared->Prop),P i vi->P j Y0->XN base s.heap->(∀s',Keeps s s'->Q (.bool (bt i j)) s')->wpAny (model XX w) A.in1 (richCompare .Lt vi Y0) Q E s):
  ∀(k j:Nat) (s:Shared) (vb:Value) (c:Nat),n - (j+1)=k->j+1<=n->St (j+1) s.heap->P (argBest bt j) vb->XN base s.heap->
  s.heap.get? B=some {cls:=.type "list",dict:=none,data:=.seq #[vb,vb] c,slots:=#[]}->
  (∀v h' tk,P (argBest bt (n - 1)) v->(∀b o,b∉wr->b≠B->s.heap.get? b=some o->h'.get? b=some o)->R (.ok (.ret v)) {s with heap:=h',toks:=tk})->
  codeAny (model XX w) A (.builtin "min.loop" ⟨[.ref I,.none,.ref B],[]⟩) R s:=by
 have zW:B∉wr:=λ h=>Iz (W.sub _ h);have jA:(toString "min"++toString ".loop":String)="min.loop":=by decide
 intro k;induction k with
 |zero=>
  intro j s vb c hk hj fh zX le hS hR;have mP:j+1=n:=by omega
  refine codeAny_builtin PySem.F.entry_min_loop ?_;rw [Around.under_plainId PySem.F.plain_min_loop _];show wpAny _ A.in1 (seqItems? (.ref B)>>=_) _ _ s;refine Z4 (wpAny_seqItems hS rfl ?_);show wpAny _ A.in1 (tryCatch (pyNext (.ref I)) _>>=_) _ _ s;refine Z4 (wpAny_tryCatch (W.done s _ _ (mP▸fh) λ h' tk dE=>?_));have je:=dE B _ zW hS;show wpAny _ A.in1 (updateSeq B (λ ξ=>#[])>>=_) _ _ _;refine Z4 ?_;refine wpAny_updateSeq je rfl (Z4 (wpAny_letGo (X5 ?_)));refine hR vb _ tk (by rw [<-mP];exact zX) λ b o nq sx e=>(Heap.get?_update_other _ _ (Ne.symm sx)).trans (dE b o nq e)
 |succ k ih=>
  intro j s vb c hk hj fh zX le hS hR;have c4:j+1<n:=by omega
  refine codeAny_builtin PySem.F.entry_min_loop ?_;rw [Around.under_plainId PySem.F.plain_min_loop _];show wpAny _ A.in1 (seqItems? (.ref B)>>=_) _ _ s;refine Z4 (wpAny_seqItems hS rfl ?_);show wpAny _ A.in1 (tryCatch (pyNext (.ref I)) _>>=_) _ _ s;refine Z4 (wpAny_tryCatch (W.item (j+1) s _ _ c4 fh λ v dg Ou hP lU v7=>?_));have oB:XN base dg:=λ b o e=>v7 b o (λ m=>by rw [hw b m] at e;cases e) (le b o e);show wpAny _ A.in1 (tryCatch (holding [v,v] (richCompare .Lt v vb>>=_)) _>>=_) _ _ _;refine Z4 (wpAny_tryCatch (XG (Z4 (v5 (j+1) (argBest bt j) v vb _ _ _ hP zX oB λ aA k₂=>?_))));refine bu k₂ λ h' DM eL kk=>?_;subst eL;have pP:St (j+1+1) h':=W.frame _ _ _ lU λ b ξ o e=>kk b o e;have dE:∀b o,b∉wr->s.heap.get? b=some o->h'.get? b=some o:=λ b o n e=>kk b o (v7 b o n e);have dS:XN base h':=oB.trans kk;have je:=dE B _ zW hS;refine Z4 (XG (wpAny_truthy_bool ?_));refine Z4 (wpAny_letGo (X5 ?_));cases hb:bt (j+1) (argBest bt j) with
  |true=>
   rw [if_pos rfl];refine Z4 ?_;refine wpAny_updateSeq je rfl (Z4 (wpAny_letGo ?_));rw [jA];refine X5 ⟨plainId_quiet PySem.F.plain_min_loop _,ih (j+1) _ v _ (by omega) c4 (W.frame _ _ _ pP λ b DN o e=>?_) (by simp only [argBest,hb,if_true];exact hP) (λ b o e=>?_) (Heap.get?_update_self _ je rfl)
    λ v' rz pQ v8 pR=>?_⟩
   ·exact (Heap.get?_update_other _ _ (λ h:B=b=>Iz (by rw [h];exact DN))).trans e
   ·exact (Heap.get?_update_other _ _ (λ h:B=b=>by rw [<-h,hB] at e;cases e)).trans (dS b o e)
   ·exact hR v' rz pQ v8 λ b o nq sx e=>pR b o nq sx ((Heap.get?_update_other _ _ (Ne.symm sx)).trans (dE b o nq e))
  |false=>
   rw [if_neg bH];refine Z4 (wpAny_letGo ?_);rw [jA];refine X5 ⟨plainId_quiet PySem.F.plain_min_loop _,ih (j+1) _ vb c (by omega) c4 pP (by simp only [argBest,hb,Bool.false_eq_true,if_false];exact zX) dS je λ v' rz pQ v8 pR=>?_⟩;exact hR v' rz pQ v8 λ b o nq sx e=>pR b o nq sx (dE b o nq e)
def GC {x:Value} {Q:Value->Shared->Prop} {base:Heap} (Ov:base.objs.size<=s.heap.objs.size)
  (h:wpAny (model XX w) A.in1 (pyIter x) (λ it aA=>Keeps s aA/\∃I fp wr n P St bt,it= .ref I/\Walks XX w A.in1 I fp wr n P St/\St 0 aA.heap/\(∀b∈fp,b<aA.heap.objs.size)/\0<n/\(∀b∈wr,base.get? b=none)/\XN base aA.heap/\
   (∀i j vi Y0 (s:Shared) (Q:Value->Shared->Prop) (E:Value->Shared->Prop),P i vi->P j Y0->XN base s.heap->(∀s',Keeps s s'->Q (.bool (bt i j)) s')->wpAny (model XX w) A.in1 (richCompare .Lt vi Y0) Q E s)/\
   ∀v h' tk,P (argBest bt (n - 1)) v->(∀b o,b∉wr->aA.heap.get? b=some o->h'.get? b=some o)->Q v {aA with heap:=h',toks:=tk}) E s):
  wpAny (model XX w) A (call (.builtin "min") [x]) Q E s:=by
 have jA:(toString "min"++toString ".loop":String)="min.loop":=by decide
 refine call_function_tree PySem.F.kind_min PySem.F.plain_min PySem.F.entry_min (PySem.F.args_min1 _) ?_;show wpAny _ A.in1 (Builtin.Builtins.bindParams "min" ["key","default"] 0 ⟨[],[]⟩>>=_) _ _ s;refine Z4 (wpAny_of_eq (show Builtin.Builtins.bindParams "min" ["key","default"] 0 ⟨[],[]⟩=pure [none,none] from rfl) ?_);refine Z4 (X5 ?_);refine Z4 (Zh h (λ it aA dJ=>?_) λ ξ ξ e=>e);obtain ⟨k₂,I,fp,wr,n,P,St,bt,rfl,W,fh,kX,hn,hw,le,v5,hQ⟩:=dJ;refine Z4 (wpAny_newObj_type ?_);have tv:aA.heap.objs.size∉fp:=λ hm=>Nat.lt_irrefl _ (kX _ hm);rw [jA];have IA:base.get? aA.heap.objs.size=none:=by
  cases e:base.get? aA.heap.objs.size with
  |none=>rfl
  |some o=>exact absurd (Heap.lt_size (le _ _ e)) (Nat.lt_irrefl _)
 generalize hB:aA.heap.objs.size=B at*;have v9:(aA.heap.push {cls:=.type "list",data:=.seq ([]:List Value).toArray}).get? B=some {cls:=.type "list",data:=.seq ([]:List Value).toArray}:=by rw [<-hB];exact Heap.get?_push_size _ rfl
 have zW:B∉wr:=λ h=>tv (W.sub _ h);refine X5 ⟨plainId_quiet PySem.F.plain_min_loop _,codeAny_builtin PySem.F.entry_min_loop ?_⟩;rw [Around.under_plainId PySem.F.plain_min_loop _];show wpAny _ A.in1 (seqItems? (.ref B)>>=_) _ _ _;refine Z4 (wpAny_seqItems v9 rfl ?_);show wpAny _ A.in1 (tryCatch (pyNext (.ref I)) _>>=_) _ _ _;refine Z4 (wpAny_tryCatch (W.item 0 _ _ _ hn (W.frame _ _ _ fh λ b ξ o e=>cN _ e) λ v h' tk hP pP dE=>?_));have je:=dE B _ zW v9;show wpAny _ A.in1 (updateSeq B (λ ξ=>#[v,v])>>=_) _ _ _;refine Z4 ?_;refine wpAny_updateSeq je rfl ?_;rw [jA];have back:∀b o,aA.heap.get? b=some o->b≠B:=λ b o e q=>by rw [q,<-hB,get_none (Nat.le_refl _)] at e;cases e
 refine X5 ⟨plainId_quiet PySem.F.plain_min_loop _,GB W bt B tv hw IA v5 _ 0 _ v _ rfl hn (W.frame _ _ _ pP λ b DN o e=>?_) hP (λ b o e=>?_) (Heap.get?_update_self _ je rfl) λ v' rz pQ v8 pR=>?_⟩
 ·exact (Heap.get?_update_other _ _ (λ h:B=b=>tv (by rw [h];exact DN))).trans e
 ·exact (Heap.get?_update_other _ _ (λ h:B=b=>by rw [<-h,IA] at e;cases e)).trans (dE b o (λ m=>by rw [hw b m] at e;cases e) (cN _ (le b o e)))
 ·exact hQ v' rz pQ v8 λ b o nq e=>pR b o nq (back b o e) ((Heap.get?_update_other _ _ (Ne.symm (back b o e))).trans (dE b o nq (cN _ e)))
def Lo {ai:List ι} {abL:ι->YJ} {bt:Nat->Nat->Bool} (hh:A.handled=none) (hn:0<ai.length)
  (hc:∀i j (hi:i<ai.length) (hj:j<ai.length),fm A.in1 (richCompare .Lt) (abL ai[i]) (abL ai[j]) (is (bt i j))) (hb:∀k,k<ai.length->argBest bt k<ai.length) {a:ι} (ha:ai[argBest bt (ai.length - 1)]? =some a):
  fJ A (.builtin "min") [cH (ai.map abL)] (abL a):=λ S s vs T fr p=>by
 refine aK p.one λ v il pv=>?_;subst il;refine bw pv λ l xs m gi hl pa=>?_;subst gi;have eF:=ao _ _ hl;have e1:=pa.length;rw [Array.length_toList,lm] at e1;have c4:@LT.lt Nat _ l s.heap.objs.size:=Heap.lt_size eF;refine GC (base:=s.heap) (Nat.le_refl _) (wpAny_pyIter_list (ed eF) ⟨gK _ _ _,s.heap.objs.size,[s.heap.objs.size,l],[s.heap.objs.size],ai.length,λ i v=>xs[i]? =some v,λ i h=>h.IsListIter s.heap.objs.size l i/\h.IsList l xs,bt,rfl,?_,⟨⟨_,Heap.get?_push_size _ rfl,rfl,rfl⟩,(ed eF).push _⟩,?_,hn,?_,λ b o e=>cN _ e,?_,?_⟩)
 ·have W:=Walks.list (prog:=XX) (w:=w) (A:=A.in1) hh s.heap.objs.size l (Nat.ne_of_lt c4) xs;rw [e1] at W;exact W
 ·intro b hb;show b<(s.heap.push _).objs.size;rw [Heap.size_push];rcases cF hb with rfl|hb
  ·exact Nat.lt_succ_self _
  ·rw [bj hb];exact Nat.lt_succ_of_lt c4
 ·intro b hb;rw [bj hb];exact get_none (Nat.le_refl _)
 ·intro i j vi Y0 aj Q E pi pj le k;have hi:i<ai.length:=by rw [<-e1];exact (Array.getElem?_eq_some_iff.mp pi).1
  have hj:j<ai.length:=by rw [<-e1];exact (Array.getElem?_eq_some_iff.mp pj).1
  refine aK (pa.get (i:=i) (P:=abL ai[i]) (by rw [List.getElem?_map];simp [hi])) λ u h1 h2=>?_;refine aK (pa.get (i:=j) (P:=abL ai[j]) (by rw [List.getElem?_map];simp [hj])) λ u' vq nG=>?_;have hu:u=vi:=by rw [Array.getElem?_toList] at h1;exact Option.some.inj (h1.symm.trans pi)
  have Ow:u'=Y0:=by rw [Array.getElem?_toList] at vq;exact Option.some.inj (vq.symm.trans pj)
  subst hu Ow;have dS:XN (hide S s.heap) (hide S aj.heap):=aJ le;exact Zh (hc i j hi hj S aj u u' (T.mono dS) (λ b hb=>let ⟨o,e⟩:=fr b hb;⟨o,le _ _ e⟩) ((abL _).mono dS h2) ((abL _).mono dS nG)) (λ v aA q=>by rw [is_bool.mp q.2];exact k aA q.1) eY
 ·intro v h' tk pv bq;have kk:∀b o,s.heap.get? b=some o->h'.get? b=some o:=λ b o e=>bq b o (λ m=>by rw [bj m,get_none (Nat.le_refl _)] at e;cases e) (cN _ e);refine aK (pa.get (i:=argBest bt (ai.length - 1)) (P:=abL a) (by rw [List.getElem?_map,ha];rfl)) λ u h1 h2=>?_;have hu:u=v:=by rw [Array.getElem?_toList] at h1;exact Option.some.inj (h1.symm.trans pv)
  subst hu;exact ⟨⟨h',tk,rfl,kk⟩,(abL _).mono (aJ kk) h2⟩
noncomputable def nr (L:Bool):SetTable:={mask:=7,place:=#[1],dummies:=#[],finger:=0,led:=L,moves:=0,plain:=true}
noncomputable def DO (L:Bool) (ep:Nat):Obj:={cls:=.type "set",data:=.set #[] ep (.fresh 0 0 L)}
def nt (L:Bool) (ep:Nat):Obj:={cls:=.type "set",data:=.set #[(1,.bool true)] ep (nr L)}
def wa {Q:Int->Shared->Prop} (h:∀tk,Q 1 {s with toks:=tk}):wpAny (model XX w) A (pyHash (.bool true)) Q E s:=by
 have hT:s.TypeIs (.bool true) "bool":=PyProof.Rows.typeIs_bool _ _;unfold pyHash;show wpAny _ _ (pyHashByItsType (.bool true)) _ _ _;unfold pyHashByItsType;have hv:[Value.bool true].any Value.onHeap=false:=rfl;refine Z4 ?_;rw [cRoomFor,if_neg (by rw [hv];exact Bool.false_ne_true)];refine X5 ?_;refine Z4 (wpAny_specialOf hT PySem.F.slot_bool_hash.lookup ?_);show wpAny _ _ (if (some (Value.builtin "int.__hash__")==some Value.none)=true then _ else _) Q E s;rw [if_neg (by rw [beq_builtin_none];exact Bool.false_ne_true)];refine Z4 (wpAny_specialOf hT PySem.F.slot_bool_hash.lookup ?_);show wpAny _ _ (callSpecialIfBoundUnlessNone? (.bool true) "__hash__" _>>=_) Q E s;refine Z4 (wpAny_callSpecialIfBoundUnlessNone?_slot hT PySem.F.slot_bool_hash
  (wpAny_call_entry PySem.F.slot_bool_hash hT entry_int_hash ?_ (args_int_hash _)))
 show wpAny _ _ (do ret (<-mkInt (rawHash 1))) _ _ s;refine wpAny_ret_mkInt ?_;have hr:rawHash 1=1:=by decide+kernel
 rw [hr];show wpAny _ _ (if (decide (-(2:Int)^63<=1)&&decide ((1:Int)<2^63))=true then _ else _) Q E _;rw [if_pos bH];exact X5 (h _)
def wb {L:Bool} {Q:Value->Shared->Prop} (ho:s.heap.get? a=some (DO L ep))
  (h:∀h' tk,Heap.SameBut a s.heap h'->(∃ep,h'.get? a=some (nt L ep))->Q .none {s with heap:=h',toks:=tk}):
  wpAny (model XX w) A (call (.builtin "set.add") [.ref a,.bool true]) Q E s:=by
 have hT:s.TypeIs (.ref a) "set":=⟨_,ho,rfl⟩;refine wpAny_call_entry PySem.F.slot_set_add hT PySem.F.entry_set_add ?_ (PySem.F.args_set_add_2 _ _);unfold Builtin.«set.add» Builtin.Frozenset.oneOther;simp only [List.isEmpty_nil,bind_assoc];unfold Builtin.Frozenset.addrOf setAdd;refine Z4 (X5 ?_);try dsimp only
 refine Z4 (X5 ?_);try dsimp only
 refine Z4 ?_;refine XG ?_;refine Z4 (wa λ tk=>?_);have pF:({s with toks:=tk}:Shared).heap.get? a=some (DO L ep):=ho;unfold setAddHashed setAddHashedIn;refine XG (Z4 (wpAny_setState_of pF rfl rfl ?_));dsimp only;rw [if_pos abd];unfold setAddByScan;refine Z4 ?_;refine Z4 (wpAny_rule ?_);refine Z4 (m:=setScan a (.bool true) 1 true #[]) (X5 (a:=ScanMet.absent) ?_);dsimp only;refine Z4 (m:=pure ()) (X5 ?_);rw [show layNew (.fresh 0 0 L) #[] 1 (.bool true)=(#[(1,.bool true)],nr L,false,false) by cases L<;>rfl];refine Z4 (X5 (a:=true) ?_);refine Z4 ?_;show wpAny _ _ (storeSet a #[(1,.bool true)] (nr L)) _ _ _;unfold storeSet;refine Z4 (wpAny_load pF ?_);show wpAny _ _ (if _ then _ else _) _ _ _;rw [if_neg (by rw [br];decide)];refine wpAny_update pF ?_;rw [if_neg (by cases L<;>decide+kernel)];refine X5 (X5 (X5 ⟨_,rfl,?_⟩));exact h _ _ (Heap.SameBut.update ..) ⟨_,Heap.get?_update_self (Obj.putSet #[(1,.bool true)] (nr L)) ho rfl⟩
def wc {L:Bool} {Q:Value->Shared->Prop} (ho:s.heap.get? a=some (nt L ep))
  (h:∀tk,Q .none {s with toks:=tk}):
  wpAny (model XX w) A (call (.builtin "set.add") [.ref a,.bool true]) Q E s:=by
 have hT:s.TypeIs (.ref a) "set":=⟨_,ho,rfl⟩;refine wpAny_call_entry PySem.F.slot_set_add hT PySem.F.entry_set_add ?_ (PySem.F.args_set_add_2 _ _);unfold Builtin.«set.add» Builtin.Frozenset.oneOther;simp only [List.isEmpty_nil,bind_assoc];unfold Builtin.Frozenset.addrOf setAdd;refine Z4 (X5 ?_);try dsimp only
 refine Z4 (X5 ?_);try dsimp only
 refine Z4 ?_;refine XG ?_;refine Z4 (wa λ tk=>?_);have pF:({s with toks:=tk}:Shared).heap.get? a=some (nt L ep):=ho;unfold setAddHashed setAddHashedIn;refine XG (Z4 (wpAny_setState_of pF rfl (by cases L<;>rfl) ?_));dsimp only;rw [if_pos abd];unfold setAddByScan;refine Z4 ?_;refine Z4 (wpAny_rule ?_);refine Z4 ?_;show wpAny _ _ (setScanFrom a (.bool true) 1 true [(1,.bool true)] 0) _ _ _;unfold setScanFrom;rw [if_pos bH];refine Z4 (wpAny_setEpoch_of pF rfl (by cases L<;>rfl) ?_);refine Z4 (PySem.SeqAt.EqAt.bool_bool true true XX w _ _ ?_);rw [if_pos bH];refine X5 (X5 (X5 (X5 ⟨_,rfl,h tk⟩)))
def g6:Slot "set_iterator" "__next__" "set_iterator.__next__":=
 .of (owner:="set_iterator") (n:="__next__") (by rw [typeLookup_type,builtinLookup_eq_fast];kernel_rfl) abd abd abd
  (by first|exact .inl abd|exact .inr abd) (by rw [isSubtype_type];kernel_rfl)
def mV:entryFor table "set_iterator.__next__"=some Builtin.«set_iterator.__next__»:=entryFor_of_tree (by kernel_rfl)
def nL (a:Value):argsOk "set_iterator.__next__" ⟨[a],[]⟩:=by unfold argsOk;kernel_rfl
def uH:entryFor table "set.__iter__"=some Builtin.«frozenset.__iter__»:=
 entryFor_alias (id':="frozenset.__iter__") (by kernel_rfl) (by first|rfl|decide+kernel) abd (by kernel_rfl)
def wd (a:Value):argsOk "set.__iter__" ⟨[a],[]⟩:=by unfold argsOk;kernel_rfl
abbrev nM (h:Heap) (I a:Addr) (slot i:Int) (ep:Nat):Prop:=h.get? I=some {cls:=.type "set_iterator",dict:=none,data:=.fields #[rawInt slot,rawInt i,.ref a,rawInt 1,rawInt ep],slots:=#[]}
def pS {c:Prop} [Decidable c] {x y:Sem α} {Q:α->Shared->Prop} (h:¬c) (k:wpAny (model XX w) A y Q E s):wpAny (model XX w) A (if c then x else y) Q E s:=by rw [if_neg h];exact k
abbrev dQ:Bool:=w.params.followText "set-order"
def zY {Q:Value->Shared->Prop} (ho:s.heap.get? a=some (nt (!dQ) ep))
  (h:nM (s.heap.push {cls:=.type "set_iterator",data:=.fields #[rawInt 0,rawInt 0,.ref a,rawInt 1,rawInt ep]}) s.heap.objs.size a 0 0 ep->Q (.ref s.heap.objs.size) {s with heap:=s.heap.push {cls:=.type "set_iterator",data:=.fields #[rawInt 0,rawInt 0,.ref a,rawInt 1,rawInt ep]}}):
  wpAny (model XX w) A (pyIter (.ref a)) Q E s:=by
 have hT:s.TypeIs (.ref a) "set":=⟨_,ho,rfl⟩;have hf:(nr (!dQ)).fits (#[((1:Int),Value.bool true)]:Array (Int×Value)).size=true:=by cases dQ<;>rfl
 refine wpAny_pyIter_slot hT PySem.F.slot_set_iter (wpAny_call_entry PySem.F.slot_set_iter hT uH ?_ (wd _));unfold Builtin.«frozenset.__iter__» Builtin.Frozenset.slot0 slotArgs;simp only [List.isEmpty_nil,Bool.not_true,Bool.false_eq_true,↓reduceIte,bind_assoc,List.length_nil,bne_self_eq_false];unfold Builtin.Frozenset.addrOf Builtin.Frozenset.sizeOf;refine Z4 (X5 ?_);try dsimp only
 refine Z4 (X5 ?_);refine Z4 (Z4 (wpAny_setEntries_of ho rfl hf (X5 ?_)));refine Z4 ?_;unfold setDrawn;refine Z4 (wpAny_setState_of ho rfl hf ?_);dsimp only;refine Z4 (Z4 (wpAny_askSetting (X5 ?_)));refine X5 ?_;have hd:∀b:Bool,(b&&(!(nr (!dQ)).plain&&decide ((#[((1:Int),Value.bool true)]:Array (Int×Value)).size>1)))=false:=by intro b;cases b<;>cases dQ<;>rfl
 refine pS (λ q=>Bool.noConfusion ((hd (!dQ)).symm.trans q)) ?_;refine Z4 (X5 ?_);refine Z4 (wpAny_setEpoch_of ho rfl hf ?_);refine Z4 (wpAny_newObj_type (X5 ⟨_,rfl,"set_iterator",_,⟨_,Heap.get?_push_size _ rfl,rfl⟩,g6.lookup,h (Heap.get?_push_size _ rfl)⟩))
def yN (f:Nat->Nat):pickOrder f (#[((1:Int),Value.bool true)]:Array (Int×Value))=#[((1:Int),Value.bool true)]:=by show pickOrder.go f 1 0 [((1:Int),Value.bool true)] #[]=_;rw [pickOrder.go,show f 0% [((1:Int),Value.bool true)].length=0 from Nat.mod_one _];rfl
def zZ {Q:Option Value->Shared->Prop} (hI:nM s.heap I a 0 0 ep) (ho:s.heap.get? a=some (nt (!dQ) ep))
  (h:∀h',(∃sl:Nat,(dQ=false->sl=2)/\nM h' I a sl 1 ep)->Heap.SameBut I s.heap h'->Q (some (.bool true)) {s with heap:=h'}):wpAny (model XX w) A (pyNext (.ref I)) Q E s:=by
 have hT:s.TypeIs (.ref I) "set_iterator":=⟨_,hI,rfl⟩;have hf:(nr (!dQ)).fits (#[((1:Int),Value.bool true)]:Array (Int×Value)).size=true:=by cases dQ<;>rfl
 have hd:((!(nr (!dQ)).plain&&decide ((#[((1:Int),Value.bool true)]:Array (Int×Value)).size>1)))=false:=by cases dQ<;>rfl
 unfold pyNext;refine Z4 (wpAny_attempt (wpAny_callSpecial?_slot (name:=Str.ofString "__next__") hT g6
  (wpAny_call_entry g6 hT mV ?_ (nL _))))
 have fin:∀(E':Value->Shared->Prop) (x:Value) (nx:Nat),x= .bool true->(dQ=false->nx=2)->wpAny (model XX w) A.in1 (do
   setField (.ref I) 0 (rawInt nx)
   setField (.ref I) 1 (rawInt (0+1))
   ret x) (λ fin s'=>∃v,fin= .done (.ret v)/\wpAny (model XX w) A (pure (some v)) Q E s') E' s:=λ E' x nx hx hn=>by
  subst hx;refine Z4 (wpAny_setField_rec hI (by simp) λ dg pT pL=>?_);replace pT:nM dg I a nx 0 ep:=pT;refine Z4 (wpAny_setField_rec pT (by simp) λ dJ vZ tu=>?_);replace vZ:nM dJ I a nx 1 ep:=vZ;exact X5 ⟨_,rfl,X5 (h dJ ⟨nx,hn,vZ⟩ (pL.trans tu))⟩
 show wpAny _ _ (fieldsOf (.ref I)>>=_) _ _ _;refine Z4 (wpAny_fieldsOf hI rfl ?_);refine Z4 (wpAny_setEntries_of ho rfl hf ?_);rw [if_neg bH];refine Z4 ?_;unfold setNext;refine Z4 (wpAny_setState_of ho rfl hf ?_);dsimp only;refine Z4 (Z4 (wpAny_askSetting (X5 ?_)));cases hb:dQ with
 |true=>
  have lB:({program:=(model XX w).prog,params:=(model XX w).w.params}:Setting).params.followText "set-order"=true:=hb;rw [if_pos lB];rw [if_neg (by simp)];refine Z4 ?_;unfold setWalk;refine Z4 (wpAny_setState_of ho rfl hf ?_);dsimp only;refine Z4 (Z4 (wpAny_askSetting (X5 ?_)));rw [if_pos lB];refine Z4 (wpAny_askSetting (X5 ?_));have hp:∀f:Nat->Nat,pickOrder f (#[((1:Int),Value.bool true)]:Array (Int×Value))=#[((1:Int),Value.bool true)]:=by intro f;exact yN f
  rw [hp];exact X5 (fin _ (.bool true) 0 rfl (by intro q;rw [hb] at q;cases q))
 |false=>
  have lB:¬({program:=(model XX w).prog,params:=(model XX w).w.params}:Setting).params.followText "set-order"=true:=by intro q;have q:dQ=true:=q;rw [hb] at q;cases q
  rw [if_neg lB];refine pS (λ q=>Bool.noConfusion (hd.symm.trans q)) ?_;refine Z4 (X5 ?_);exact X5 (fin _ (.bool true) 2 rfl (λ ξ=>rfl))
def tw {sl:Nat} {Q:Option Value->Shared->Prop} (hh:A.handled=none) (hI:nM s.heap I a sl 1 ep) (nN:dQ=false->sl=2) (ho:s.heap.get? a=some (nt (!dQ) ep))
  (h:∀h' tk,(∀b o,b≠I->s.heap.get? b=some o->h'.get? b=some o)->Q none {s with heap:=h',toks:=tk}):wpAny (model XX w) A (pyNext (.ref I)) Q E s:=by
 have hT:s.TypeIs (.ref I) "set_iterator":=⟨_,hI,rfl⟩;have hf:(nr (!dQ)).fits (#[((1:Int),Value.bool true)]:Array (Int×Value)).size=true:=by cases dQ<;>rfl
 have hd:((!(nr (!dQ)).plain&&decide ((#[((1:Int),Value.bool true)]:Array (Int×Value)).size>1)))=false:=by cases dQ<;>rfl
 unfold pyNext;refine Z4 (wpAny_attempt (wpAny_callSpecial?_slot (name:=Str.ofString "__next__") hT g6
  (wpAny_call_entry g6 hT mV ?_ (nL _))))
 have fin:∀(Q':Fin->Shared->Prop),wpAny (model XX w) A.in1 (do
   setField (.ref I) 2 .none
   raiseNew (<-newExc (.type "StopIteration") [])) Q' (λ e s'=>
   wpAny (model XX w) A (do if<-isInstance e (Value.type "StopIteration") then pure none else throw e) Q E s') s:=λ Q'=>by
  refine Z4 (wpAny_setField_rec hI (by simp) λ dg pT pL=>?_);refine Z4 ?_;simp only [newExc,newTuple];refine Z4 (wpAny_newObj_type ?_ (by size_fits));refine Z4 (m:=firstArgMember _ _) (wpAny_of_eq (a:=Value.none) (by first|rfl|(simp only [firstArgMember];rfl)) ?_);refine wpAny_newObj_type ?_ (by size_fits);unfold raiseNew;refine Z4 (wpAny_handled ?_)
  first|rw [show A.in1.handled=none from hh]|rw [hh]
  refine Z4 (X5 (wpAny_throw ?_));refine Z4 (wpAny_isInstance (T:="StopIteration") (b:=true) ⟨_,Heap.get?_push_size _ rfl,rfl⟩ isSubtype_stop ?_);exact X5 (h _ _ λ b o n e=>cN _ (cN _ ((pL.2 b n).trans e)))
 show wpAny _ _ (fieldsOf (.ref I)>>=_) _ _ _;refine Z4 (wpAny_fieldsOf hI rfl ?_);refine Z4 (wpAny_setEntries_of ho rfl hf ?_);rw [if_neg bH];refine Z4 ?_;unfold setNext;refine Z4 (wpAny_setState_of ho rfl hf ?_);dsimp only;refine Z4 (Z4 (wpAny_askSetting (X5 ?_)));cases hb:dQ with
 |true=>
  have lB:({program:=(model XX w).prog,params:=(model XX w).w.params}:Setting).params.followText "set-order"=true:=hb;rw [if_pos lB];rw [if_neg (by simp)];refine Z4 ?_;unfold setWalk;refine Z4 (wpAny_setState_of ho rfl hf ?_);dsimp only;refine Z4 (Z4 (wpAny_askSetting (X5 ?_)));rw [if_pos lB];refine Z4 (wpAny_askSetting (X5 ?_));have hp:∀f:Nat->Nat,pickOrder f (#[((1:Int),Value.bool true)]:Array (Int×Value))=#[((1:Int),Value.bool true)]:=by intro f;exact yN f
  rw [hp];exact X5 (fin _)
 |false=>
  have lB:¬({program:=(model XX w).prog,params:=(model XX w).w.params}:Setting).params.followText "set-order"=true:=by intro q;have q:dQ=true:=q;rw [hb] at q;cases q
  rw [if_neg lB];refine pS (λ q=>Bool.noConfusion (hd.symm.trans q)) ?_;refine Z4 (X5 ?_);rw [nN hb];exact X5 (fin _)
def z0 {Q:List Value->Shared->Prop} (hh:A.handled=none) (ho:s.heap.get? a=some (nt (!dQ) ep))
  (h:∀s',Keeps s s'->Q [.bool true] s'):wpAny (model XX w) A (unpackItems (.ref a) 1 none) Q E s:=by
 have hT:s.TypeIs (.ref a) "set":=⟨_,ho,rfl⟩;have c4:a≠s.heap.objs.size:=Nat.ne_of_lt (Heap.lt_size ho);unfold unpackItems;refine Z4 ?_;unfold notIterableAtAll;refine Z4 (wpAny_specialOf hT PySem.F.slot_set_iter.lookup ?_);refine X5 ?_;rw [if_neg bH];refine Z4 (XG (zY ho λ hI=>?_));have pF:(s.heap.push {cls:=.type "set_iterator",data:=.fields #[rawInt 0,rawInt 0,.ref a,rawInt 1,rawInt ep]}).get? a=some (nt (!dQ) ep):=cN _ ho;refine Z4 (XG ?_);rw [draw];refine Z4 (zZ hI pF λ dg pT pL=>?_);refine aK pT λ sl nN pT=>?_;refine Z4 (XG ?_);rw [draw];refine X5 (X5 ?_);rw [if_neg (by simp)];refine Z4 (XG (tw hh pT nN ((pL.2 a c4).trans pF) λ dJ tk he=>?_));rw [if_neg bH];refine X5 (h _ ⟨_,_,rfl,λ b o e=>he b o (Nat.ne_of_lt (Heap.lt_size e)) ((pL.2 b (Nat.ne_of_lt (Heap.lt_size e))).trans (cN _ e))⟩)
def sy (e:Expr):Prop:=∃es k p,e= .Tuple es k p
def GD [aaK α] {xs:List α} {en:Str} {ep:Pos} (hh:A.handled=none) (he:Ev A sc ρ (.Name en ep) (lit (.type "enumerate"))) (ha:Ev A sc ρ aS (is xs)) (hp:eT [aS]) (fh:∀aa,starEach [aS] aa=(false,eval aS aa)::starEach [] aa):
  jP A sc ρ (.Call (.Name en ep) [aS] [] cp) (xs.zipIdx) (λ a=>f5 [is ((a.2:Nat):Int),is a.1]) sy:=λ S aa s c=>by
 refine oA he c hp trivial λ az t8 qX=>?_;refine j7 (he:=fh aa) (ha.use qX λ v aj k₁ c₁ aZ=>wpAny_items_nil ⟨c₁.top.mono ao,?_⟩);refine bw (is_list.mp aZ) λ l vs m cX hl pa=>?_;subst cX;have eF:=ed (ao _ _ hl);have e1:=pa.length;rw [Array.length_toList,lm] at e1;have c4:@LT.lt Nat _ l aj.heap.objs.size:=Heap.lt_size (ao _ _ hl);refine call_enumerate_list eF λ h' hE hI hsz kk=>?_;refine ⟨aj,aL t8 k₁,⟨_,_,rfl,kk⟩,wpAny_pyIter_enum hE ⟨cB _,aj.heap.objs.size+1,[aj.heap.objs.size+1,aj.heap.objs.size,l],[aj.heap.objs.size+1,aj.heap.objs.size],
  λ i h=>(∃old,IsEnum h (aj.heap.objs.size+1) aj.heap.objs.size i old)/\h.IsListIter aj.heap.objs.size l i/\h.IsList l vs,rfl,?_,⟨⟨_,hE⟩,hI,eF.at λ o e=>kk _ _ e⟩,?_⟩⟩
 ·have n1:∀b,@LE.le Nat _ aj.heap.objs.size b->aj.heap.get? b=none:=λ b h=>get_none h;have Q6:(aj.heap.objs.size+1:Addr)≠aj.heap.objs.size:=by show ¬@Eq Nat _ _;w_up
  have Q7:l≠(aj.heap.objs.size+1:Addr):=by show ¬@Eq Nat _ _;w_up
  have UL:l≠aj.heap.objs.size:=by show ¬@Eq Nat _ _;w_up
  exact {
   sub:=λ b hb=>bL [l] hb
   frame:=λ i h h' st hk=>by refine eU st λ c7 a2 a3=>?_;refine aM c7 λ old a1=>?_;exact iJ ⟨old,hk _ di _ a1⟩ (a2.at λ o e=>hk _ (Ym _ di) o e) (a3.at λ o e=>hk _ (Ym _ (Ym _ di)) o e)
   turn:=λ i hi aN hp s S' Q st le hw hl k=>by
    refine jj hp λ es kk pp d6=>?_;subst d6;refine eU st λ dI a2 a3=>?_;refine aM dI λ old a1=>?_;have nO:i<xs.length:=by simpa using hi
    refine aK (pa.get (i:=i) (P:=is xs[i]) (by rw [List.getElem?_map];simp [nO])) λ u h1 h2=>?_;have hu:vs[i]? =some u:=by simpa using h1
    refine wpAny_pyNext_enum_item a1 a2 a3 hu Q6 λ dg b1 b2 XR abw YR=>cV _ rfl ?_;refine wpAny_letOwnedTupleGo_enum b1 λ dJ c1 c2=>?_;have WX:@LT.lt Nat _ (aj.heap.objs.size+1) s.heap.objs.size:=Heap.lt_size a1;have rA:∀b o,b≠(aj.heap.objs.size+1:Addr)->dg.get? b=some o->dJ.get? b=some o:=λ b o n e=>(c2.2 b n).trans e;have bq:∀b o,b∉([aj.heap.objs.size+1,aj.heap.objs.size]:List Addr)->s.heap.get? b=some o->dJ.get? b=some o:=λ b o n e=>by exact rA b o (fb n) (YR b o (fb n) (fb (f3 n)) e)
    have hT:dJ.get? s.heap.objs.size=some {cls:=.type "tuple",data:=.seq #[.int i s.toks,u]}:=rA _ _ (by show ¬@Eq Nat _ _;w_up) XR;have Ox:s.heap.objs.size∉S':=eO hl (Nat.le_refl _);have z3:XN (hide S aj.heap) (hide S' dJ):=le.trans (b5 λ b o nb e=>bq b o (λ m=>nb (hw b m)) e);refine k _ dJ _ ?_ ⟨⟨u,by simpa using c1⟩,b2.at λ o e=>rA _ _ (Ne.symm Q6) e,(a3.at λ o e=>YR _ _ Q7 UL e).at λ o e=>rA _ _ Q7 e⟩ bq;simp only [List.getElem_zipIdx,Nat.zero_add];refine jm s.heap.objs.size (#[.int i s.toks,u]) 0 rfl ?_ ?_
    ·show Heap.get? _ _=_;rw [bI,if_neg Ox];exact hT
    ·exact iJ (bD.mpr ⟨_,rfl⟩) ((is _).mono z3 h2) trivial
   done:=λ s Q E st k=>by
    refine eU st λ fR a2 a3=>?_;refine aM fR λ old a1=>?_;rw [List.length_zipIdx] at a1 a2;refine wpAny_pyNext_enum_end hh a1 a2 a3 (by rw [<-e1];exact Array.getElem?_eq_none (Nat.le_refl _)) λ dg hx=>?_;exact k dg _ λ b o n e=>by exact hx b o (fb (f3 n)) e
   self:=λ i s Q E st k=>by refine eU st λ eK ξ ξ=>?_;refine aM eK λ old a1=>?_;exact wpAny_pyIter_enum a1 k
   live:=λ i h st=>by refine eU st λ eL sd ξ=>?_;refine aM eL λ old a1=>?_;refine aK sd λ o a2 ξ=>?_;exact gg ⟨_,a1⟩ (gg ⟨o,a2⟩ qV)
   new:=gg (n1 _ (Nat.le_succ _)) (gg (n1 _ (Nat.le_refl _)) qV)
   out:=gg (eO c₁.b4 (Nat.le_succ _)) (gg (eO c₁.b4 (Nat.le_refl _)) (gg (mr hl) qV))
   r8:=λ b hb hn=>(List.mem_append (s:=[aj.heap.objs.size+1,aj.heap.objs.size]) (t:=[l]).mp hb).elim (λ m=>absurd m hn) λ m=>by rw [bj m];exact ⟨_,hl⟩}
 ·refine gg ?_ (gg ?_ (gg ?_ qV));all_goals
   show @LT.lt Nat _ _ h'.objs.size;rw [hsz];w_up
noncomputable def tB:YJ:=⟨λ h v=>∃(a:Addr) (ep:Nat),v= .ref a/\h.get? a=some (nt (!dQ) ep),λ k ⟨a,ep,e,x⟩=>d8 a ep e (k _ _ x)⟩
def oC {bP target aG bA gs ag ar it aO aa} {R:Result->Shared->Prop}
  (h0:codeAny (model XX w) A (.compLoop (.SetComp bP (⟨target,aG,bA,0⟩::gs) ag ar) 0 it aO aa) R s)
  (h:wpAny (model XX w) A (pyIter it) (λ se s'=>codeAny (model XX w) A (.compLoop (.SetComp bP (⟨target,aG,bA,0⟩::gs) ag ar) 0 se aO aa) R s')
   (notedBy (model XX w) A aa λ x s'=>R (.error x) s') s):
  codeAny (model XX w) A (.compStart (.SetComp bP (⟨target,aG,bA,0⟩::gs) ag ar) 0 it aO aa) R s:=by
 refine codeAny_of_tree ?_;show wpAny _ _ ((compStart (.SetComp bP (⟨target,aG,bA,0⟩::gs) ag ar) 0 it aO aa).onRaise (λ x=>do noteFrame x aa;standAt theWindowsPlace)) _ _ s;refine wpAny_notedAt ?_;unfold compStart;show wpAny _ _ (ask>>=_) _ _ s;refine Z4 (wpAny_askSetting (wpAny_ite ?_));split
 ·first
   |exact Z4 (X5 (X5 (And.intro rfl h0)))
   |exact X5 (And.intro rfl h0)
 ·first
   |exact Z4 (wpAny_rule (Z4 (ig (Z4 (Zh h (λ se s' h'=>X5 (And.intro rfl h')) dp)))))
   |(refine Z4 (wpAny_rule ?_);show wpAny _ _ (standAt aG.pos>>=_) _ _ s;exact Z4 (ig (Z4 (Zh h (λ se s' h'=>X5 (And.intro rfl h')) dp))))
def tC {ai:List ι} {abL:ι->YJ} {β:ι->eV}
  (ok:fS sc ρ ag) (hs:jP A sc ρ aG ai abL Ok) (iG:∀aa x,foldedSetIterable aG aa x=pure x) (bl:ai.length<=sizeLine) (g8:Ok aN) (fg:0<ai.length)
  (ht:∀a∈ai,jn A (cg sc ag.names) (ownOf ag) aN (abL a) (β a))
  (ni:∀a∈ai,Ev A (cg sc ag.names) (β a++e7 ag ρ) bP (is true)):
  Ev A sc ρ (.SetComp bP [⟨aN,aG,[],0⟩] ag ar) (tB):=λ S aa s c=>by
 rw [arm_eval_SetComp];refine oi (ai:=ai) (e:=.SetComp bP [⟨aN,aG,[],0⟩] ag ar) (gs:=[]) (p:=λ ξ=>true) (β:=β) (use:=none) (cJ:=λ D aa=>do let v<-eval bP aa;standAt bP.pos;let _<-call (.builtin "set.add") [D,v])
  (Acc:=λ i g o=>(i=0->∃ep,o=DO (!dQ) ep)/\(0<i->∃ep,o=nt (!dQ) ep))
  ok hs iG bl g8 ht (λ a ξ=>fy) rfl (λ s Q k=>?_) (λ le x=>x) (λ i hi g o hp=>by cases hp) (λ i hi ξ S' cenv D s o cx Zt hD h1 h2 ho ha=>?_) (λ it D cenv=>by rfl) (λ ξ ξ ξ=>rfl) (λ ξ ξ ξ=>rfl) (λ ξ ξ ξ=>rfl) (λ it aO cenv R s h0 h=>oC h0 h) c λ D C s' k Zj Zw ne ξ hn hw=>?_
 ·unfold newSet;refine Z4 (Z4 (wpAny_askSetting (X5 ?_)));refine wpAny_newObj_type ?_;exact k _ rfl λ g=>⟨λ ξ=>⟨0,rfl⟩,λ h=>absurd h (Nat.lt_irrefl _)⟩
 ·unfold oh;refine Z4 ((ni _ (List.getElem_mem hi)).use cx λ v aj k₁ c₁ aZ=>Z4 (ig ?_));rw [is_bool.mp aZ];have vF:=kle k₁ _ _ ho;have zL:iV (ownOf ag) S' cenv aj.heap:=Zt.le (kle k₁);rcases Nat.eq_zero_or_pos i with rfl|Nq
  ·refine aM (ha.1 rfl) λ ep gG=>?_;subst gG;refine Z4 (wb vF λ h' tk hs he=>X5 ?_);refine aM he λ QZ he=>?_;refine ⟨_,he,⟨λ q=>by w_up,λ ξ=>⟨QZ,rfl⟩⟩,(abO.of k₁).trans ((abO.set hs λ ξ ξ=>⟨_,he⟩).more λ b hb=>by rw [bj hb];exact hD),zL.keep (λ o e=>(hs.2 _ (Ne.symm h1)).trans e) (λ n ξ cc q o e=>(hs.2 _ λ z=>h2 n (z▸q)).trans e),λ b o n1 n2 ZV e=>(hs.2 b n1).trans (kle k₁ _ _ e)⟩
  ·refine aM (ha.2 Nq) λ ep gi=>?_;subst gi;refine Z4 (wc vF λ tk=>X5 ?_);exact ⟨_,vF,⟨λ q=>by w_up,λ ξ=>⟨ep,rfl⟩⟩,abO.of (aL k₁ (dG _ _)),zL,λ b o n1 n2 ZV e=>kle k₁ _ _ e⟩
 ·refine aM hn λ m hm=>?_;refine aK hw λ o ho ha=>?_;refine aM (ha.2 fg) λ ep fO=>?_;subst fO;refine ⟨m,hm,λ h' gA=>uX ?_ D ep rfl ?_⟩
  ·refine bu k λ dg mq gN kk=>?_;subst gN;refine d8 h' mq rfl (λ b o e=>(gA.2 b ?_).trans (kk b o e));rintro rfl;rw [Zj] at e;cases e
  ·have e9:D∉S:=λ m=>by refine aM (c.b4 D m) λ o e=>?_;rw [Zw] at e;cases e
   rw [bI,if_neg e9];exact (gA.2 D (Ne.symm ne)).trans (ao _ _ ho)
def GF {x:Str} {px:Pos} (hh:A.handled=none) (hx:cw ak sc x=true):jn A sc ak (.Tuple [.Name x px] k ar) (tB) [(x,is true)]:=λ ρ S aa s v Q E c o p h=>by refine bu p λ a ep jy ha=>?_;subst jy;rw [arm_assign_Tuple];refine Z4 (ig ?_);show wpAny _ _ (unpack (.ref a) [(false,assign (.Name x px) aa)]) _ _ _;unfold unpack;refine Z4 (XG (z0 hh (ao _ _ ha) λ aj k₁=>?_));have c₁:=c.mono (kle k₁);have pH:iV ak S aa aj.heap:=o.le (kle k₁);show wpAny _ _ (assignInOrder [assign (.Name x px) aa] [.bool true]) _ _ _;refine Z4 (m:=holding [] (assign (.Name x px) aa (.bool true))) (f:=λ ξ=>assignInOrder [] []) (XG (wpAny_assign_Name (gO (P:=is true) c₁ pH hx (is_bool.mpr rfl) λ aA k c₂ Be f=>?_)));show wpAny _ _ (pure ()) _ _ _;exact X5 (h aA ((abO.of k₁).trans k) c₂ Be λ b o' h1 h2 e=>f b o' h1 h2 (kle k₁ _ _ e))
def IB (hz:YN.length<=sizeLine):XC A (f5 YN) (!YN.isEmpty):=λ S s v ξ p=>by refine bw p λ a vs n cX ha pa=>?_;subst cX;have e1:=pa.length;rw [Array.length_toList] at e1;have:=br;refine truthy_tuple (mU (ao _ _ ha)) (by rw [e1];w_up) ⟨dG _ _,?_⟩;unfold Array.isEmpty;rw [e1];cases YN<;>simp
def du {gens:List Comprehension} {t:Str} {line:Nat} {b:Bool} (aa:Env) (hk:aa.scope.kind= .function) (hn:aa.scope.names=sc)
  (hb:(sc.lookup t==some .local&&tp.line==be.line&&!(ag.names.any λ (n,k)=>n==t&&(k== .local||k== .cell)))=b):swapsWith (.ListComp bP gens ag be) (some (.Name t tp)) line aa=pure b:=by
 show pure (aa.blockKind== .function&&aa.kindOf t==some .local&&tp.line==be.line&&!(ag.names.any λ (n,k)=>n==t&&(k== .local||k== .cell)))=_;have h1:(aa.blockKind==ScopeKind.function)=true:=by unfold Env.blockKind;rw [hk];rfl
 rw [h1,Env.kindOf,hn,Bool.true_and,hb]
noncomputable def Bu (sc:ly) (ts:List Expr) (line:Nat):List Str:=ts.filterMap λ
  | .Name id ar=>if sc.lookup id==some .local&&ar.line==line then some id else none
  |_=>none
def Q8 {c:Prop} [Decidable c] {x y:α} (q:x=y):(if c then y else x)=y:=by
 by_cases h:c
 ·rw [if_pos h]
 ·rw [if_neg h];exact q
def nu {ts vs:List Expr} {k':Nat} {p p':Pos} (aa:Env) (hn:aa.scope.names=sc) (hb:((Bu sc ts ((ts.head?.map (·.pos.line)).getD 0)).length !=ts.length)=true):
  swappedStores [.Tuple ts k p] (.Tuple vs k' p') aa=pure none:=by
 have Gw:∀id,aa.kindOf id=sc.lookup id:=λ id=>by rw [Env.kindOf,hn]
 refine Q8 (Q8 (if_pos ?_));rw [Bool.or_eq_true];left;refine Eq.trans ?_ hb;unfold Bu;congr 3;funext x;cases x<;>simp only [Gw]
def bV (hk:ag.kind= .function:=by rfl) (gp:(ag.names.map (·.1)).Nodup:=by decide+kernel) (hf:∀n∈freeOf ag,sc.lookup n=some .cell\/sc.lookup n=some .free:=by decide+kernel) (hr:(freeOf ag).all (λ n=>(ρ.lookup n).isSome)=true:=by rfl):fS sc ρ ag:=
 ⟨hk,gp,λ n hn=>by have hm:n∈freeOf ag:=List.mem_map.mpr ⟨(n,.free),List.mem_filter.mpr ⟨hn,rfl⟩,rfl⟩;refine ⟨Option.isSome_iff_exists.mp ?_,hf n hm⟩;exact List.all_eq_true.mp hr n hm⟩
noncomputable def IC (C:Addr):XW:=⟨[C],λ ξ ξ=>True,λ ξ ξ ξ ξ ξ=>trivial⟩
def Bv {ai:List ι} {abL:ι->YJ} {β:ι->eV} {p:ι->Bool} {R:ι->YJ}
  (f:YQ sc ak F aw az aa ρ J S s) (ok:fS sc ρ ag) (hs:jP A sc ρ aG ai abL Ok) (iG:∀aa x,foldedSetIterable aG aa x=pure x) (bl:ai.length<=sizeLine) (g8:Ok aN)
  (ht:∀a∈ai,jn A (cg sc ag.names) (ownOf ag) aN (abL a) (β a))
  (ng:∀a∈ai,lM A (cg sc ag.names) (β a++e7 ag ρ) bA (p a))
  (ni:∀a∈ai,p a=true->Ev A (cg sc ag.names) (β a++e7 ag ρ) bP (R a))
  (hx:cw ak sc z=true) (gP:∀aa:Env,aa.scope.kind= .function->aa.scope.names=sc->swapsWith (.ListComp bP [⟨aN,aG,bA,0⟩] ag be) (some (.Name z YA)) ar.line aa=pure true)
  (ID:∀h v,(cH ((ai.filter p).map R)).p h v->P.p h v)
  (k:∀s',YQ sc ak F aw az aa ((z,P)::ρ) J S s'->wpAny (model XX w) A (execs aD aa) Q E s'):
  wpAny (model XX w) A (execs (.Assign [.Name z YA] (.ListComp bP [⟨aN,aG,bA,0⟩] ag be) ar::aD) aa) Q E s:=by
 refine YF ?_;rw [exec_Assign_Name_used _ _ _ _ (gP aa f.cx.kind f.cx.names)];refine Z4 (ig (Z4 ?_));show wpAny _ A (do let _<-comprehension (.ListComp bP [⟨aN,aG,bA,0⟩] ag be) ag aa _ (newList []) false (eval aG aa) (some (assign (.Name z YA) aa))) _ _ s;refine Z4 (mn (Q:=λ ξ s'=>wpAny (model XX w) A (pure ()) (λ ξ s'=>wpAny (model XX w) A (pure Flow.next) (λ f s'=>match f with| .next=>wpAny (model XX w) A (execs aD aa) Q E s'|f=>Q f s') E s') E s') ok hs iG bl g8 ht ng ni f.cx λ D C s' kk Zj Zw ne hn hw=>?_);refine aM hn λ m hm=>?_;have Oz:∃o,s'.heap.get? C=some o:=by refine cY hm λ o ξ ξ e ξ=>?_;exact ⟨o,e⟩
 have bN:=f.yG (D:=[C]) (K:=IC C) kk (λ b m=>by rw [bj m];exact Zj) (λ b m=>by rw [bj m];exact Oz) (λ b m=>m) trivial;have Ze:=bN.aar C (bL _ (List.mem_singleton.mpr rfl));refine wpAny_assign_Name (gO (P:=P) bN.cx bN.Zt hx (ID _ _ hw) λ aA a b d g=>?_);have bh:=bN.kept a b d g;have DP:aA.heap.Ns C m:=by refine cY hm λ o es ep e r=>?_;exact rZ o es ep (g C o Ze.2.1 (λ n ξ=>Ze.2.2.1 n) e) r
 refine cV m DP (λ h' gA=>X5 (X5 ?_));have Y6:YQ sc ak F aw az aa ((z,P)::ρ) J S aA:=bh.shrink (λ b hb=>bC _ hb) f.sub f.Zt.loc (λ n hn kk b e=>by refine bU (f.Zt.gb n hn kk) λ c v a1 a2 ξ=>?_;rw [a1] at e;cases e;exact a2) bh.jp.2 λ b hb=>⟨bC _ hb,(f.aar b hb).1⟩
 refine k _ (YQ.drop (D:=[C]) (tk:=aA.toks) bh Y6 (λ b o nb e=>(gA.2 b λ q=>nb (List.mem_singleton.mpr q)).trans e) (λ m=>Ze.2.1 (bj m).symm) (λ n b e m=>Ze.2.2.1 n ((bj m)▸e)) (λ b hb m=>?_) λ b m=>?_)
 ·refine aM (f.cx.b4 b hb) λ o e=>?_;rw [bj m,Zj] at e;cases e
 ·rw [bj m];cases e:az.heap.get? C with
  |none=>rfl
  |some o=>refine aM (f.aaH.live _ _ e) λ o' aa8=>?_;rw [Zj] at aa8;cases aa8
def mW [aaK α] {ai:List ι} {abL:ι->YJ} {β:ι->eV} {p:ι->Bool} {g:ι->α}
  (f:YQ sc ak F aw az aa ρ J S s) (ok:fS sc ρ ag) (hs:jP A sc ρ aG ai abL Ok) (iG:∀aa x,foldedSetIterable aG aa x=pure x) (bl:ai.length<=sizeLine) (g8:Ok aN)
  (ht:∀a∈ai,jn A (cg sc ag.names) (ownOf ag) aN (abL a) (β a))
  (ng:∀a∈ai,lM A (cg sc ag.names) (β a++e7 ag ρ) bA (p a))
  (ni:∀a∈ai,p a=true->Ev A (cg sc ag.names) (β a++e7 ag ρ) bP (is (g a)))
  (hx:cw ak sc z=true) (gP:∀aa:Env,aa.scope.kind= .function->aa.scope.names=sc->swapsWith (.ListComp bP [⟨aN,aG,bA,0⟩] ag be) (some (.Name z YA)) ar.line aa=pure true)
  (k:∀s',YQ sc ak F aw az aa ((z,is ((ai.filter p).map g))::ρ) J S s'->wpAny (model XX w) A (execs aD aa) Q E s'):
  wpAny (model XX w) A (execs (.Assign [.Name z YA] (.ListComp bP [⟨aN,aG,bA,0⟩] ag be) ar::aD) aa) Q E s:=
 Bv (R:=λ a=>is (g a)) f ok hs iG bl g8 ht ng ni hx gP (λ h v q=>is_list.mpr (by rw [List.map_map];exact q)) k
abbrev abh:KeyKind XX w Str:=strKind XX w
def km (k:Tx) (t:Tok):(abh).is k.s (.str k.s t)=true:=by show Value.isStrOf k.s (.str k.s t)=true;simp [Value.isStrOf]
def mX (g h:Heap) (d:Addr) (kvs:List (Tx×YJ)):Prop:=
 (d==sysModules)=false/\∃L:List (Str×Value),h.DictOf (abh) d L/\L.map (·.1)=kvs.map (λ p=>p.1.s)/\AllP g (kvs.map (·.2)) (L.map (·.2))
def mX.mono {g':Heap} {d:Addr} (k:XN g g') (e:∀o,h.get? d=some o->h'.get? d=some o) (x:mX g h d kvs):mX g' h' d kvs:=by refine uW x λ h1 L h2 h3 h4=>?_;exact ⟨h1,L,h2.at e,h3,h4.mono k⟩
noncomputable def gB (kvs:List (Tx×YJ)):YJ:=⟨λ h v=>∃d,v= .ref d/\mX h h d kvs,λ k ⟨d,e,x⟩=>cV d e (x.mono k λ o e=>k _ _ e)⟩
noncomputable def fW (d:Addr) (kvs:List (Tx×YJ)):XW:=⟨[d],λ g h=>mX g h d kvs,λ le ξ ξ k x=>x.mono le (k d di)⟩
noncomputable def fT (kvs:List (Tx×YJ)) (k:Tx) (P:YJ):List (Tx×YJ):=
 if kvs.any (λ kv=>decide (kv.1=k)) then kvs.map (λ kv=>if kv.1=k then (kv.1,P) else kv) else kvs++[(k,P)]
def any_keys {k:Tx}:∀{L:List (Str×Value)} {kvs:List (Tx×YJ)},L.map (·.1)=kvs.map (λ p=>p.1.s)->L.any (λ kv=>kv.1=k.s)=kvs.any (λ kv=>decide (kv.1=k)):=by
 intro L;induction L with
 |nil=>
  intro Z2;cases Z2 with
  |nil=>intro _;exact rfl
  |cons _ _=>intro h;simp at h
 |cons aa8 L ih=>
  intro Z2;cases Z2 with
  |nil=>intro h;simp at h
  |cons Z2 kvs=>
   obtain ⟨a,v⟩:=aa8;obtain ⟨b,P⟩:=Z2;intro h;rw [List.map_cons,List.map_cons] at h;injection h with h1 h2;rw [List.any_cons,List.any_cons,ih h2];congr 1;have h1:a=b.s:=h1;subst h1;by_cases e:b=k
   ·subst e;simp
   ·have:b.s≠k.s:=λ q=>e (Tx.lu q);simp [e,this]
def we {k:Tx} {L:List (Str×Value)} (h:L.map (·.1)=kvs.map (λ p=>p.1.s)) (p:AllP g (kvs.map (·.2)) (L.map (·.2))) (pv:P.p g v):
  (stored L k.s v).map (·.1)=(fT kvs k P).map (λ p=>p.1.s)/\AllP g ((fT kvs k P).map (·.2)) ((stored L k.s v).map (·.2)):=by
 unfold stored fT;rw [any_keys (k:=k) h];split
 ·have a8:∀{L:List (Str×Value)} {kvs:List (Tx×YJ)},L.map (·.1)=kvs.map (λ p=>p.1.s)->AllP g (kvs.map (·.2)) (L.map (·.2))->
    (L.map (λ kv=>if kv.1=k.s then (kv.1,v) else kv)).map (·.1)=(kvs.map (λ kv=>if kv.1=k then (kv.1,P) else kv)).map (λ p=>p.1.s)/\
    AllP g ((kvs.map (λ kv=>if kv.1=k then (kv.1,P) else kv)).map (·.2)) ((L.map (λ kv=>if kv.1=k.s then (kv.1,v) else kv)).map (·.2)):=by
   intro L;induction L with
   |nil=>intro kvs h p;cases kvs with
    |nil=>exact ⟨rfl,trivial⟩
    |cons _ _=>simp at h
   |cons x L ih=>intro kvs h p;cases kvs with
    |nil=>simp at h
    |cons y kvs=>
     obtain ⟨a,u⟩:=x;obtain ⟨b,Q⟩:=y;rw [List.map_cons,List.map_cons] at h;injection h with h1 h2;have h1:a=b.s:=h1;subst h1;refine cO p λ p1 p2=>?_;refine cO (ih h2 p2) λ i1 i2=>?_;by_cases e:b=k
     ·subst e;rw [show ((b.s,u)::L).map (λ kv=>if kv.1=b.s then (kv.1,v) else kv)=(b.s,v)::L.map λ kv=>if kv.1=b.s then (kv.1,v) else kv by rw [List.map_cons,if_pos rfl],
       show ((b,Q)::kvs).map (λ kv=>if kv.1=b then (kv.1,P) else kv)=(b,P)::kvs.map λ kv=>if kv.1=b then (kv.1,P) else kv by rw [List.map_cons,if_pos rfl]]
      exact ⟨congrArg (b.s::·) i1,pv,i2⟩
     ·have e':b.s≠k.s:=λ q=>e (Tx.lu q);rw [show ((b.s,u)::L).map (λ kv=>if kv.1=k.s then (kv.1,v) else kv)=(b.s,u)::L.map λ kv=>if kv.1=k.s then (kv.1,v) else kv by rw [List.map_cons,if_neg e'],
       show ((b,Q)::kvs).map (λ kv=>if kv.1=k then (kv.1,P) else kv)=(b,Q)::kvs.map λ kv=>if kv.1=k then (kv.1,P) else kv by rw [List.map_cons,if_neg e]]
      exact ⟨congrArg (b.s::·) i1,p1,i2⟩
  exact a8 h p
 ·refine ⟨by rw [List.map_append,List.map_append,h];rfl,?_⟩;rw [List.map_append,List.map_append];exact p.append ⟨pv,trivial⟩
def YQ.OA (f:YQ sc ak F aw az aa ρ J S s) (hz:ρ.lookup z=some (lit (.ref D))) (hw:W.p (hide (S.filter λ b=>!decide (b=D)) s.heap) (.ref D)):XK sc ((z,W)::ρ) (S.filter λ b=>!decide (b=D)) aa s.heap:=by
 have sub:∀b∈(S.filter λ b=>!decide (b=D)),b∈S:=λ b hb=>(aa7 hb).1;have c:=f.cx.less sub;refine ⟨c.names,c.kind,c.glob,c.bi,λ n P e=>?_,c.b4,c.top⟩;rw [List.lookup_cons] at e;by_cases q:n=z
 ·subst q;rw [beq_self_eq_true] at e;cases e;have x:=c.vars n _ hz;exact x.map (λ m v a b d=>bW m v a b ((show v= .ref D from d)▸hw)) λ ξ c v a b d=>bW c v a b ((show v= .ref D from d)▸hw)
 ·rw [beq_eq_false_iff_ne.mpr q] at e;exact c.vars n P e
def IE {o:Obj} (e:h.get? D=some o):(hide (S.filter λ b=>!decide (b=D)) h).get? D=some o:=by rw [bI,if_neg λ q=>by have:=(aa7 q).2;simp at this];exact e
def YQ.GG (f:YQ sc ak F aw az aa ρ (K.and J) S s) (hK:D∈K.fp) (hz:ρ.lookup z=some (lit (.ref D))) (hw:W.p (hide (S.filter λ b=>!decide (b=D)) s.heap) (.ref D)) (h0:D∉aw) (hD:D∉J.fp):YQ sc ak F aw az aa ((z,W)::ρ) J (S.filter λ b=>!decide (b=D)) s:=by
 have nl:D≠aa.locals:=(f.aar D (bL _ hK)).2.1;have ZC:∀n,aa.cells.lookup n≠some D:=(f.aar D (bL _ hK)).2.2.1;have keep:∀b,b∈S->b≠D->b∈(S.filter λ b=>!decide (b=D)):=λ b hb hn=>List.mem_filter.mpr ⟨hb,by simp [hn]⟩;have g:=f.shrink (S:=S.filter λ b=>!decide (b=D)) (aa_:=J) (λ b hb=>(aa7 hb).1) (λ b hb=>keep b (f.sub b hb) λ q=>h0 (q▸hb)) (keep _ f.Zt.loc (Ne.symm nl))
  (λ n hn kk b e=>by refine bU (f.Zt.gb n hn kk) λ c v a b' d=>?_;rw [a] at e;cases e;exact keep _ b' λ q=>ZC n (q▸a)) f.jp.2 λ b hb=>⟨bC _ hb,keep b (f.aar b (bC _ hb)).1 λ q=>hD (q▸hb)⟩
 exact ⟨f.OA hz hw,g.Zt,g.aaH,g.sub,g.new,g.loc,g.gb,g.cl,g.jp,g.aar⟩
def GH (x:mX (hide S s.heap) s.heap D kvs):(gB kvs).p (hide (S.filter λ b=>!decide (b=D)) s.heap) (.ref D):=
 ⟨D,rfl,x.mono (cT λ b hb=>(aa7 hb).1) λ o e=>IE e⟩
structure jU (J aa_:XW) (D:Addr) (C aaU:Heap->Heap->Prop):Prop where
 mem:D∈J.fp
 fp:∀b∈aa_.fp,b∈J.fp
 get:∀{g h:Heap},J.p g h->C g h
 set:∀{g g' h h':Heap},XN g g'->XN g h->XN g' h'->(∀b o,b≠D->h.get? b=some o->h'.get? b=some o)->J.p g h->aaU g' h'->aa_.p g' h'
def t9 {K':XW} (h1:K.fp=[D]) (h2:K'.fp=[D]) (hD:D∉J.fp):jU (K.and J) (K'.and J) D K.p K'.p where
 mem:=bL _ (by rw [h1];exact List.mem_singleton.mpr rfl)
 fp:=λ b h=>by
  rcases bR h with h|h
  ·exact bL _ (by rw [h1];rw [h2] at h;exact h)
  ·exact bC _ h
 get:=λ x=>x.1
 set:=λ l1 l2 Yi k x y=>⟨y,J.st l1 l2 Yi (λ b hb o e=>k b o (λ q=>hD (q▸hb)) e) x.2⟩
def g7 {C aaU:Heap->Heap->Prop} (l:jU J aa_ D C aaU) (hD:D∉K.fp):jU (K.and J) (K.and aa_) D C aaU where
 mem:=bC _ l.mem
 fp:=λ b h=>by
  rcases bR h with h|h
  ·exact bL _ h
  ·exact bC _ (l.fp b h)
 get:=λ x=>l.get x.2
 set:=λ l1 l2 Yi k x y=>⟨K.st l1 l2 Yi (λ b hb o e=>k b o (λ q=>hD (q▸hb)) e) x.1,l.set l1 l2 Yi k x.2 y⟩
def DQ {k:Tx} (f:YQ sc ak F aw az aa ρ J S s) (hv:Ev A sc ρ aaB P) (hz:Ev A sc ρ (.Name z YA) (lit (.ref D))) (hk:Ev A sc ρ ke (is k))
  (L:jU J aa_ D (fW D kvs).p (fW D (fT kvs k P)).p) (hsz:kvs.length<=sizeLine) (gP:∀aa:Env,aa.scope.kind= .function->aa.scope.names=sc->swapsWith aaB (some (.Subscript (.Name z YA) ke sp)) ar.line aa=pure false)
  (kk:∀s',YQ sc ak F aw az aa ρ aa_ S s'->wpAny (model XX w) A (execs aD aa) Q E s'):wpAny (model XX w) A (execs (.Assign [.Subscript (.Name z YA) ke sp] aaB ar::aD) aa) Q E s:=by
 refine YF (wpAny_Assign_Subscript (hs:=gP aa f.cx.kind f.cx.names) (hv.use f.cx λ v aj k₁ c₁ aZ=>hz.use c₁ λ d aA k₂ c₂ cG=>hk.use c₂ λ kv aH iq lN k4=>?_));rw [show d= .ref D from cG];refine aM (bz.mp k4) λ t il=>?_;subst il;have dC:=f.keep (aL (aL k₁ k₂) iq);refine uW (L.get dC.jp) λ h1 M h2 h3 h4=>?_;have hl:M.length=kvs.length:=by have:=congrArg List.length h3;simpa using this
 refine wpAny_setItem_pairs (knd:=abh) (k:=k.s) (km k t) h2 (λ h' hd hs=>?_) (by rw [hl];exact hsz);have e9:=(dC.aar D L.mem).1;have dS:XN (hide S aH.heap) (hide S h'):=b5 λ b o nb e=>(hs.2 b λ q=>nb (q▸e9)).trans e;have OB:P.p (hide S h') v:=P.mono dS (P.mono (aJ (kle (aL k₂ iq))) aZ);refine cO (we (k:=k) h3 (h4.mono dS) OB) λ g1 g2=>?_;have eF:∃o,h'.get? D=some o:=by refine cY hd λ o ξ ξ e ξ=>?_;exact ⟨o,e⟩
 exact kk _ (dC.mut (aa_:=aa_) (tk:=aH.toks+1) L.mem hs eF (L.set dS ao ao (λ b o nb e=>(hs.2 b nb).trans e) dC.jp ⟨h1,_,hd,g1,g2⟩) L.fp)
noncomputable def mx (kvs:List (Tx×YJ)) (k:Tx):Option YJ:=(kvs.find? λ kv=>decide (kv.1=k)).map (·.2)
def x6 {k:Tx}:∀{L:List (Str×Value)} {kvs:List (Tx×YJ)},L.map (·.1)=kvs.map (λ p=>p.1.s)->AllP g (kvs.map (·.2)) (L.map (·.2))->
  match mx kvs k with|some P=>∃v,valueAt L k.s=some v/\P.p g v|none=>valueAt L k.s=none:=by
 intro L;induction L with
 |nil=>
  intro Z2;cases Z2 with
  |nil=>intro _ _;exact rfl
  |cons _ _=>intro h _;simp at h
 |cons aa8 L ih=>
  intro Z2;cases Z2 with
  |nil=>intro h _;simp at h
  |cons Z2 kvs=>
   obtain ⟨a,v⟩:=aa8;obtain ⟨b,P⟩:=Z2;intro h p;rw [List.map_cons,List.map_cons] at h;injection h with h1 h2;have h1:a=b.s:=h1;subst h1;refine cO p λ p1 p2=>?_;have ih:=ih h2 p2;by_cases e:b=k
   ·subst e;have:mx ((b,P)::kvs) b=some P:=by unfold mx;simp
    rw [this];exact cV v (by unfold valueAt;simp) p1
   ·have e':b.s≠k.s:=λ q=>e (Tx.lu q);have a1:mx ((b,P)::kvs) k=mx kvs k:=by unfold mx;simp [e]
    have a2:valueAt ((b.s,v)::L) k.s=valueAt L k.s:=by unfold valueAt;simp [e']
    rw [a1,a2];exact ih
def wg {k:Tx} (hk:mx kvs k=some P):fm A getItem (gB kvs) (is k) P:=λ S s a b ξ f p q=>by obtain ⟨d,rfl,h1,L,h2,h3,h4⟩:=p;refine aM (bz.mp q) λ t gj=>?_;subst gj;have:=x6 (k:=k) h3 h4;rw [hk] at this;refine aK this λ v e pv=>?_;exact wpAny_getItem_of (knd:=abh) (km k t) (h2.at λ o e=>ao _ _ e).mapOf e ⟨dG _ _,pv⟩
def tD:l8 (gB kvs) "dict":=λ s v p=>by obtain ⟨d,rfl,h1,L,h2,_⟩:=p;exact h2.typeIs
def IF {Z':Pos} {k:Tx} (f:YQ sc ak F aw az aa ρ J S s) (hk:Ev A sc ρ ke (is k)) (hv:Ev A sc ρ aaB P) (hx:cw ak sc z=true) (hs:∀aa:Env,aa.scope.kind= .function->aa.scope.names=sc->swapsWith (.Dict [some ke] [aaB] Z') (some (.Name z YA)) ar.line aa=pure false)
  (Lp:(evalEachOpt [some ke] aa).zip ((evalEach [aaB] aa).map λ v=>do let x<-v;standAt Z';pure x)=[(eval ke aa,do let x<-eval aaB aa;standAt Z';pure x)].map λ p=>(some p.1,p.2))
  (kk:∀D s',D∉S->D∉J.fp->YQ sc ak F aw az aa ((z,lit (.ref D))::ρ) ((fW D [(k,P)]).and J) (D::S) s'->wpAny (model XX w) A (execs aD aa) Q E s'):wpAny (model XX w) A (execs (.Assign [.Name z YA] (.Dict [some ke] [aaB] Z') ar::aD) aa) Q E s:=by
 have o8:(s.heap.push {cls:=.type "dict",data:=.dict #[]}).DictOf (abh) s.heap.objs.size []:=Heap.DictOf.new s.heap;have e9:s.heap.objs.size∉S:=eO f.cx.b4 (Nat.le_refl _);have pU:s.heap.objs.size∉J.fp:=λ m=>e9 (f.aar _ m).1;have jL:=r9 f.cx;refine YF (wpAny_Assign_Name (hs:=hs aa f.cx.kind f.cx.names) (wpAny_Dict_pairs (knd:=abh) Lp (by simp) (by simp) ?_));have iw:YQ sc ak F aw az aa ρ ((fW s.heap.objs.size []).and J) (s.heap.objs.size::S) {s with heap:=s.heap.push {cls:=.type "dict",data:=.dict #[]}}:=
  f.lay (D:=s.heap.objs.size) ⟨_,_,rfl,λ ξ ξ e=>cN _ e⟩ (get_none (Nat.le_refl _)) ⟨_,Heap.get?_push_size _ rfl⟩ (λ b m=>bj m) ⟨jL,[],o8,rfl,trivial⟩
 refine evalPairs_cons (hk.use iw.cx λ kv aj k₁ c₁ aZ=>Z4 (hv.use c₁ λ v aA k₂ c₂ cG=>Z4 (ig (X5 (evalPairs_nil ?_)))));refine aM (bz.mp aZ) λ t kc=>?_;subst kc;refine eX [(k.s,v)] ⟨km k t,rfl,trivial⟩ (o8.keep λ b o e=>kle (aL k₁ k₂) b o e) (λ h' hd gA=>?_);have bh:=iw.keep (aL k₁ k₂);have L:=t9 (K:=fW s.heap.objs.size []) (K':=fW s.heap.objs.size [(k,P)]) (J:=J) rfl rfl pU;have eF:∃o,h'.get? s.heap.objs.size=some o:=by refine cY hd λ o ξ ξ e ξ=>?_;exact ⟨o,e⟩
 have dS:XN (hide (s.heap.objs.size::S) aA.heap) (hide (s.heap.objs.size::S) h'):=b5 λ b o nb e=>(gA.2 b λ q=>nb (q▸di)).trans e;have dC:=bh.mut (aa_:=(fW s.heap.objs.size [(k,P)]).and J) (tk:=aA.toks+[(Value.str k.s t,v)].length) L.mem gA eF (L.set dS ao ao (λ b o nb e=>(gA.2 b nb).trans e) bh.jp ⟨jL,_,hd,rfl,P.mono dS cG,trivial⟩) L.fp;exact gO dC.cx dC.Zt hx (P:=lit (.ref s.heap.objs.size)) rfl λ bS a b d g=>kk _ bS e9 pU (dC.kept a b d g)
section
open Builtin Builtin.ObjectAttr
def DR:typeLookup (.type "function") "__getattribute__"=pure (some (.builtin "object.__getattribute__")):=by rw [typeLookup_type,builtinLookup_eq_fast];kernel_rfl
def IG:typeLookup (.type "function") "__getattr__"=pure none:=by rw [typeLookup_type,builtinLookup_eq_fast];kernel_rfl
def IH:typeLookup (.type "function") "__setattr__"=pure (some (.builtin "object.__setattr__")):=by rw [typeLookup_type,builtinLookup_eq_fast];kernel_rfl
def z4:typeLookup (.type "function") "applies_to"=pure none:=by rw [typeLookup_type,builtinLookup_eq_fast];kernel_rfl
def Fx:typeLookup (.type "function") "allowance"=pure none:=by rw [typeLookup_type,builtinLookup_eq_fast];kernel_rfl
def z5:Slot "function" "__getattribute__" "object.__getattribute__":=
 Slot.of (owner:="object") (n:="__getattribute__") DR abd abd abd (.inl abd) (by rw [isSubtype_type];kernel_rfl)
def z6:Slot "function" "__setattr__" "object.__setattr__":=
 Slot.of (owner:="object") (n:="__setattr__") IH abd abd abd (.inl abd) (by rw [isSubtype_type];kernel_rfl)
def GI:entryFor table "object.__getattribute__"=some Builtin.«object.__getattribute__»:=entryFor_of_tree (by kernel_rfl)
def Bw (a n:Value):argsOk "object.__getattribute__" ⟨[a,n],[]⟩:=by unfold argsOk;kernel_rfl
def II {Q:Found->Shared->Prop} (ho:s.heap.get? f=some abF) (hc:abF.cls= .type "function") (hd:abF.data= .func fd) (jQ:abF.dict=some dx) (hn:s.heap.Ns dx m) (hv:m name=some v)
  (hT:typeLookup (.type "function") name=pure none) (h:Q (.value v) s):wpAny (model XX w) A (ObjectAttr.find (.ref f) (.type "function") name) Q E s:=by
 obtain ⟨oc,od,UM,Lq⟩:=abF;dsimp only at hc hd jQ;subst hc hd jQ;unfold ObjectAttr.find;rw [hT];refine Z4 (X5 (Z4 (X5 (Z4 (X5 ?_)))));show wpAny _ _ (ownThenClass (.ref f) name none none) _ _ _;unfold ownThenClass inOwnDict ObjectAttr.ownDict;refine Z4 (Z4 (Z4 (m:=loadHead f) (wpAny_loadPart ho ?_)));unfold instanceDict;refine Z4 (wpAny_loadPart ho ?_);refine X5 ?_;refine wpAny_nsGet hn ?_;rw [hv];exact Z4 (wpAny_rule (X5 h))
def fn_get {Q:Value->Shared->Prop} (ho:s.heap.get? f=some abF) (hc:abF.cls= .type "function") (hd:abF.data= .func fd) (jQ:abF.dict=some dx) (hn:s.heap.Ns dx m) (hv:m name=some v)
  (hT:typeLookup (.type "function") name=pure none) (hh:handedIn v=true) (h:Q v {s with toks:=s.toks+1}):wpAny (model XX w) A (getAttr (.ref f) name expr) Q E s:=by
 have uI:s.TypeIs (.ref f) "function":=⟨_,ho,hc⟩;unfold getAttr getAttrBy;refine Z4 (wpAny_mkText (XG (Z4 (wpAny_typeOf (T:="function") uI (Z4 ?_)))));rw [DR];refine X5 ?_;show wpAny _ _ (getAttrByItsOwn _ _ _ _ _ _) _ _ _;unfold getAttrByItsOwn hookBefore callGetattribute boundAndCalled;refine Z4 (X5 (Z4 (wpAny_attempt (XG ?_))));rw [if_neg (by simp [onTheHeap])];rw [z5.bind];refine Z4 (X5 (wpAny_call ?_));refine codeAny_call_builtin z5.plain GI (z5.check _ _ _ _ _ _ _ _ uI (Bw _ _) ?_);unfold Builtin.«object.__getattribute__»;refine Z4 (X5 (Z4 (X5 (Z4 (wpAny_typeOf (T:="function") uI (Z4 (II ho hc hd jQ hn hv hT (X5 ?_))))))));show wpAny _ _ (handedOut v) _ _ _;rw [handedOut_of hh];exact X5 h
def Lr:mroOf (.type "function")=pure [.type "function",.type "object"]:=by kernel_rfl
def DS (self:Value):refuseLoop self "__setattr__" [.type "function",.type "object"]=pure ():=by kernel_rfl
def Bx (a n v:Value):argsOk "object.__setattr__" ⟨[a,n,v],[]⟩:=PySem.F.store_object.args a n v
structure FnAt (h:Heap) (f:Addr) (abF:Obj) (fd:FuncData) (m:Str->Option Value):Prop where
 at_:h.get? f=some abF
 cls:abF.cls= .type "function"
 data:abF.data= .func fd
 dict:(abF.dict=none/\∀n,m n=none)\/∃dx,abF.dict=some dx/\dx≠f/\h.Ns1 dx m
def Fy {Q:Unit->Shared->Prop} (I:FnAt s.heap f abF fd m) (hT:typeLookup (.type "function") name=pure none) (hw:Within m ns) (hz:ns.length<=100)
  (h:∀dx lD h' tk,FnAt h' f lD fd (λ y=>if y=name then some v else m y)->lD.dict=some dx->(abF.dict=some dx\/(abF.dict=none/\s.heap.get? dx=none))->(∀b o,b≠f->b≠dx->s.heap.get? b=some o->h'.get? b=some o)->Q () {s with heap:=h',toks:=tk}):
  wpAny (model XX w) A (setAttr (.ref f) name v) Q E s:=by
 obtain ⟨ho,hc,hd,jQ⟩:=I;have uI:s.TypeIs (.ref f) "function":=⟨_,ho,hc⟩;unfold setAttr callSpecial?;refine Z4 (wpAny_mkText (Z4 (Z4 (wpAny_specialOf (T:="function") (s:={s with toks:=s.toks+1}) uI IH (XG ?_)))));rw [z6.bind];refine Z4 (X5 (Z4 (wpAny_call ?_)));refine codeAny_call_builtin z6.plain PySem.F.store_object.entry (z6.check _ _ _ _ _ _ _ _ uI (Bx _ _ _) ?_);show wpAny _ _ (Builtin.«object.__setattr__» ⟨[.ref f,.str name s.toks,v],[]⟩) _ _ _;rw [osa_eq,refuse_eq];refine Z4 (Z4 (wpAny_typeOf (T:="function") uI (Z4 ?_)));rw [Lr];refine X5 ?_;rw [DS];refine X5 (Z4 (wpAny_typeOf (T:="function") uI (Z4 ?_)));rw [hT];refine X5 (Z4 (X5 ?_));obtain ⟨oc,od,UM,Lq⟩:=abF;dsimp only at hc hd jQ;subst hc hd;show wpAny _ _ (storeInOwnDict (.ref f) (.type "function") (.str name s.toks) name v false) _ _ _;unfold storeInOwnDict;have e1:ownStreamTells (.ref f) (.type "function")=pure ():=by kernel_rfl
 rw [e1];refine Z4 (X5 ?_);rw [if_neg bH];refine Z4 ?_;unfold ownDictForStores instanceDict;refine Z4 (wpAny_loadPart ho ?_);dsimp only;rcases jQ with ⟨rfl,hm⟩|⟨dx,rfl,fg,nj⟩
 ·have e2:(!true||!typeHasDict (.type "function"))=false:=by kernel_rfl
  dsimp only;rw [e2];have IJ:(s.heap.push {cls:=.type "dict",data:=.dict #[]}).get? f=some ⟨.type "function",none,.func fd,Lq⟩:=cN _ ho;have OC:f≠s.heap.objs.size:=Nat.ne_of_lt (Heap.lt_size ho);refine Z4 (wpAny_alloc ?_);refine Z4 (wpAny_update IJ ?_);have e3:dictMade (.type "function") f s.heap.objs.size=pure (some s.heap.objs.size):=by kernel_rfl
  rw [e3];refine X5 ?_;have UN:((s.heap.push {cls:=.type "dict",data:=.dict #[]}).update f λ o=>{o with dict:=some s.heap.objs.size}).get? s.heap.objs.size=some {cls:=.type "dict",data:=.dict #[]}:=
   (Heap.get?_update_other _ _ OC).trans (Heap.get?_push_size _ rfl)
  have gp:((s.heap.push {cls:=.type "dict",data:=.dict #[]}).update f λ o=>{o with dict:=some s.heap.objs.size}).Ns s.heap.objs.size (λ ξ=>none):=
   ⟨_,#[],_,UN,rfl,λ e he=>absurd he (by simp),λ ξ=>rfl⟩
  show wpAny _ _ (storeInDict s.heap.objs.size (.str name s.toks) name v) _ _ _;unfold storeInDict newKeyGuard;refine Z4 (X5 (Z4 (wpAny_nsSet1 (Heap.Ns1.of_empty gp) λ h' jz hs=>?_)));refine bw (jz.count (Within.cons name v Within.nil)) λ Z6 Q9 Ra IK IL IM=>?_;refine Z4 (wpAny_lookBehind IK (by rw [IL];exact pastItsLine_dict (Nat.le_trans IM (by rw [List.length_cons,List.length_nil,sizeLine_eq];w_up))) ?_);refine X5 (X5 (X5 ?_));refine h s.heap.objs.size ⟨.type "function",some s.heap.objs.size,.func fd,Lq⟩ h' _ ⟨(hs.2 f OC).trans (Heap.get?_update_self _ IJ rfl),rfl,rfl,.inr ⟨_,rfl,Ne.symm OC,?_⟩⟩ rfl (.inr ⟨rfl,get_none (Nat.le_refl _)⟩) λ b o h1 h2 e=>?_
  ·have:(λ y=>if y=name then some v else m y)=λ y=>if y=name then some v else none:=by funext y;rw [hm y]
   rw [this];exact jz
  ·exact (hs.2 b h2).trans ((Heap.get?_update_other _ _ (Ne.symm h1)).trans (cN _ e))
 ·refine X5 ?_;show wpAny _ _ (storeInDict dx (.str name s.toks) name v) _ _ _;unfold storeInDict newKeyGuard;refine Z4 (X5 (Z4 (wpAny_nsSet1 nj λ h' jz hs=>?_)));refine bw (jz.count (Within.cons name v hw)) λ Z6 Q9 Ra IK IL IM=>?_;refine Z4 (wpAny_lookBehind IK (by rw [IL];exact pastItsLine_dict (Nat.le_trans IM (by rw [List.length_cons,sizeLine_eq];w_up))) ?_);refine X5 (X5 (X5 ?_));exact h dx ⟨.type "function",some dx,.func fd,Lq⟩ h' _ ⟨(hs.2 f (Ne.symm fg)).trans ho,rfl,rfl,.inr ⟨dx,rfl,fg,jz⟩⟩ rfl (.inl rfl) λ b o h1 h2 e=>(hs.2 b h2).trans e
end
noncomputable abbrev Fz (ps:Array Value):Obj:={cls:=.none,data:=.fields ps}
noncomputable def pV:Str:="_law_line.<locals>.<lambda>"
noncomputable def dW:XW:=⟨[317],λ g h=>∃ps,h.get? 317=some (Fz ps)/\TriplesOk ps.toList/\∀ar c,codeAmong ar ps.toList=some c->g.CodeRec c pV,
 λ le ξ ξ k ⟨ps,a,b,d⟩=>eX ps (k 317 di _ a) b (λ ar c e=>(d ar c e).keeps le)⟩
def GJ {a b:Int} {c d:Value} (l:List Value) (h:TriplesOk l) (e:codeAmong ar (l++[rawInt a,rawInt b,c])=some d):codeAmong ar l=some d\/d=c:=by
 fun_induction TriplesOk l with
 |case1=>
  right;simp only [List.nil_append,rawInt,codeAmong] at e;split at e
  ·exact (Option.some.inj e).symm
  ·cases e
 |case2 a' t b' u x aD ih=>
  simp only [List.cons_append,codeAmong] at e⊢;split at e
  ·rename_i q;rw [if_pos q];exact .inl e
  ·rename_i q;rw [if_neg q];exact ih h e
 |case3 l h1 h2=>exact h.elim
def wh (params:Arguments) (bM:Expr) (ag:Scope) (cl:List (Str×Addr)) (pm cd ct:Value):FuncData:=
 {name:="<lambda>",qualname:=pV,params:=params,body:=.expr bM,scope:=ag,globals:=mainGlobals,closure:=cl,defaults:=.none,kwdefaults:=.none,doc:=.none,pyModule:=pm,annotations:=none,code:=cd,closureTuple:=ct,builtins:=builtinsNs}
def yO {ps:Array Value} (T:er g) (le:XN g h) (hP:h.get? 317=some (Fz ps)) (ht:TriplesOk ps.toList):h.IsCode 321 317 ps/\h.TableAt 321 317 ps:=by have k:=le _ _ (T.k 321 HO abl);exact iJ ⟨_,_,_,_,_,_,_,_,_,_,k,rfl,rfl,rfl,rfl,rfl,rfl,hP,rfl,ht,by decide⟩ ⟨_,_,k,rfl,rfl,rfl⟩ hP
def yP {params:Arguments} {bM:Expr} {Q:Value->Shared->Prop} (c:XK sc ρ S aa s.heap) (wi:317∈S) (wj:aa.code= .ref 321) (hq:aa.qual++"<lambda>"=pV)
  (hJ:dW.p (hide S s.heap) s.heap) (qS:closureFor ag aa=pure cl) (Rb:defaultsOf params aa=([],[]))
  (h:∀f pm cd ct h' tk,(∀b o,b≠317->s.heap.get? b=some o->h'.get? b=some o)->(∃o,h'.get? 317=some o)->s.heap.get? f=none->f∉S->h'.get? f=some {cls:=.type "function",data:=.func (wh params bM ag cl pm cd ct)}->
   (hide S h').CodeRec cd pV->dW.p (hide S h') h'->Q (.ref f) {s with heap:=h',toks:=tk}):
  wpAny (model XX w) A (eval (.Lambda params bM ag ar) aa) Q E s:=by
 refine cZ hJ λ ps hP ht x7=>?_;refine qB c.top.t λ Nu Nv Nx mg mb T ξ=>?_;refine cO (yO c.top ao hP ht) λ Ls Rc=>?_;have hg:s.heap.Ns mainGlobals mg:=T.g.keeps ao;obtain ⟨bm,ob,b1,b2,XR,abw,YR,YY⟩:=T.bmain;have XR:=ao _ _ XR;have UO:mainGlobals≠317:=by decide
 have UP:bm≠317:=λ q=>by rw [q,hP] at XR;cases XR;cases abw
 have fin:∀(A:Around) (cd ct:Value) (aj:Shared),(∃h t,aj={s with heap:=h,toks:=t})->(∀b o,b≠317->s.heap.get? b=some o->aj.heap.get? b=some o)->(∃o,aj.heap.get? 317=some o)->s.heap.objs.size<=aj.heap.objs.size->
   (hide S aj.heap).CodeRec cd pV->dW.p (hide S aj.heap) aj.heap->
   wpAny (model XX w) A (do
    let fd:FuncData:={name:="<lambda>",qualname:=aa.qual++"<lambda>",params:=params,body:=.expr bM,scope:=ag,globals:=aa.globals,closure:=cl,closureTuple:=ct,code:=cd,builtins:=<-builtinsFor aa.globals aa.builtins,defaults:=.none,kwdefaults:=.none,annotations:=none,pyModule:=(<-nsGet aa.globals "__name__").getD .none,doc:=.none}
    newObj (.type "function") (.func fd)) Q E aj:=by
  rintro A cd ct aj ⟨dg,mq,rfl⟩ kk hp hsz IP Lu;rw [c.glob];have DT:dg.Ns mainGlobals mg:=by refine cY hg λ o es ep e r=>?_;exact rZ o es ep (kk _ _ UO e) r
  refine Z4 (wpAny_builtinsFor DT b1 b2 (kk _ _ UP XR) abw YR YY ?_);refine Z4 (wpAny_nsGet DT ?_);refine wpAny_newObj_type ?_ (by size_fits);rw [hq];have hn:s.heap.get? dg.objs.size=none:=get_none hsz;have pk:∀b o,dg.get? b=some o->(dg.push {cls:=.type "function",data:=.func (wh params bM ag cl ((mg "__name__").getD .none) cd ct)}).get? b=some o:=λ b o e=>cN _ e;refine aM hp λ aaa UQ=>?_;refine h dg.objs.size ((mg "__name__").getD .none) cd ct _ mq (λ b o nb e=>pk _ _ (kk b o nb e)) ⟨aaa,pk _ _ UQ⟩ hn (λ m=>?_) (Heap.get?_push_size _ rfl) (IP.keeps (aJ pk)) (dW.st (aJ pk) ao ao (λ b ξ o e=>pk _ _ e) Lu);refine aM (c.b4 _ m) λ o e=>?_;rw [hn] at e;cases e
 have up:∀(aj:Shared) (ct:Value) (A:Around),(∃h t,aj={s with heap:=h,toks:=t})->XN s.heap aj.heap->s.heap.objs.size<=aj.heap.objs.size->
   wpAny (model XX w) A (do
    let fd:FuncData:={name:="<lambda>",qualname:=aa.qual++"<lambda>",params:=params,body:=.expr bM,scope:=ag,globals:=aa.globals,closure:=cl,closureTuple:=ct,code:=<-functionCode aa ar ar.line "<lambda>" (aa.qual++"<lambda>") params ag (.expr bM),builtins:=<-builtinsFor aa.globals aa.builtins,defaults:=.none,kwdefaults:=.none,annotations:=none,pyModule:=(<-nsGet aa.globals "__name__").getD .none,doc:=.none}
    newObj (.type "function") (.func fd)) Q E aj:=by
  rintro aj ct A ⟨dg,mq,rfl⟩ le hsz;cases hf:codeAmong ar ps.toList with
  |some cd=>
   refine Z4 (wpAny_functionCode_hit wj (Ls.keeps le) hf ?_);exact fin A cd ct {s with heap:=dg,toks:=mq} ⟨_,_,rfl⟩ (λ b o ξ e=>le b o e) ⟨_,le _ _ hP⟩ hsz ((x7 _ _ hf).keeps (aJ le)) ⟨ps,le _ _ hP,ht,λ p c e=>(x7 p c e).keeps (aJ le)⟩
  |none=>
   refine Z4 (wpAny_functionCodeX wj (Ls.keeps le) (Rc.keeps le) hf λ c' h' tk hx GK c4 ξ IP Lu ξ=>?_);have By:∀b o,b≠317->s.heap.get? b=some o->h'.get? b=some o:=λ b o nb e=>hx b o nb (le b o e);have t7:s.heap.objs.size<=c':=Nat.le_trans hsz GK;have UR:c'∉S:=λ m=>by refine aM (c.b4 _ m) λ o e=>?_;rw [get_none t7] at e;cases e
   have IQ:(hide S h').CodeRec (.ref c') pV:=by obtain ⟨c₂,o,vs,t,e,g,r⟩:=IP;cases e;rw [hq] at r;exact ⟨c',o,vs,t,rfl,by rw [bI,if_neg UR];exact g,r⟩
   have Yx:XN (hide S s.heap) (hide S h'):=b5 λ b o nb e=>By b o (λ q=>nb (q▸wi)) e;refine fin A (.ref c') ct {s with heap:=h',toks:=tk} ⟨_,_,rfl⟩ By ⟨_,Lu.2⟩ (Nat.le_of_lt (Nat.lt_of_le_of_lt t7 c4)) IQ ⟨_,Lu.2,?_,λ p cc e=>?_⟩
   ·have:(ps++#[rawInt ar.line,rawInt ar.col,Value.ref c']).toList=ps.toList++[rawInt ar.line,rawInt ar.col,.ref c']:=by rw [Array.toList_append]
    rw [this];exact TriplesOk_snoc _ _ _ _ ht
   ·have:(ps++#[rawInt ar.line,rawInt ar.col,Value.ref c']).toList=ps.toList++[rawInt ar.line,rawInt ar.col,.ref c']:=by rw [Array.toList_append]
    rw [this] at e;rcases GJ _ ht e with e|rfl
    ·exact (x7 p cc e).keeps Yx
    ·exact IQ
 rw [arm_eval_Lambda,Rb];show wpAny _ A (do let dv<-evalAll [];let US<-holding dv (evalAllOpt []);makeFunction "<lambda>" (aa.qual++"<lambda>") params (.expr bM) ag aa dv US [] ar ar.line) Q E s;refine Z4 (X5 (Z4 (XG (X5 ?_))));rw [makeFunction_eq];have hz:(params.kwonlyargs.zip ([]:List (Option Value))).filterMap (λ (a,d)=>d.map (a.arg,·))=[]:=by rw [List.zip_nil_right];rfl
 simp only [hz,List.isEmpty_nil,if_true,pure_bind];unfold makeTail;rw [qS];refine Z4 (X5 ?_);cases cl with
 |nil=>exact Z4 (X5 (up s .none A ⟨_,_,rfl⟩ (λ ξ ξ e=>e) (Nat.le_refl _)))
 |cons q r=>
  refine Z4 (wpAny_newTextTuple ?_);exact up _ _ A ⟨_,_,rfl⟩ (λ b o e=>cN _ e) (by rw [Heap.size_push];w_up)
def BA {t:Tx}:fJ A (.type "type") [is t] (lit (.type "str")):=λ S s vs T fr p=>by refine aK p.one λ v cX pv=>?_;subst cX;exact call_type_of (Ff rk pv) abd ⟨cB _,rfl⟩
def GL {k:Value} {tk:Tok} {d:Int} {Q:Fin->Shared->Prop} (hk:k= .int d tk) (hq:Q (.done (.ret (.bool true))) s):
  wpAny (model XX w) A (Builtin.«issubclass.nested» ⟨[.type "str",.type "str",k],[]⟩) Q E s:=by
 subst hk;unfold Builtin.«issubclass.nested»;refine Z4 (m:=typeOf (.type "str")) (wpAny_of_eq PyProof.Rows.meta_str ?_);show wpAny _ _ (if (Value.type "type"==Value.type "type")=true then _ else _) _ _ s;rw [if_pos bH];refine Z4 (Z4 (m:=isType (.type "str")) (X5 (a:=true) ?_));refine Z4 (m:=isType (.type "str")) (X5 (a:=true) ?_);rw [if_pos bH];refine Z4 (m:=isSubtype (.type "str") (.type "str")) (wpAny_of_eq PyProof.Rows.sub_str_str ?_);exact X5 (a:=true) (X5 hq)
def DU {tp:Addr} {arr:Array Value} {m:Nat} {k:Value} {tk:Tok} {Q:Fin->Shared->Prop} (hk:k= .int 0 tk) (ht:IsT s.heap tp arr m) (ha:arr.toList=[.type "str",.type "bytes"]) (hq:Q (.done (.ret (.bool true))) s):
  wpAny (model XX w) A (Builtin.«issubclass.nested» ⟨[.type "str",.ref tp,k],[]⟩) Q E s:=by
 subst hk;obtain ⟨h,g,d,t,os⟩:=s;have Xg:(⟨h,g,d,t,os⟩:Shared).TypeIs (.ref tp) "tuple":=⟨_,ht,rfl⟩;have f1:=PySem.F.isi_sub_tuple;repeat (any_goals (first|assumption|wp_step))
 refine wpAny_arrayLoop ?_;simp only [Option.getD_some,ha];rw [List.forIn_cons];refine Z4 (Z4 (call_function_any abd abd PySem.F.entry_issubclass_nested (by unfold argsOk;kernel_rfl) (GL rfl ?_)));refine Z4 (m:=truthy (.bool true)) (X5 ?_);repeat (any_goals (first|assumption|wp_step))
def x8:fJ A (.builtin "issubclass") [lit (.type "str"),f5 [lit (.type "str"),lit (.type "bytes")]] (is true):=λ S s vs T fr p=>by refine bU p.two λ v u d6 pv q=>?_;subst d6;refine bw q λ tp cs m dI ht pa=>?_;subst dI;refine bU (AllP.two pa) λ v1 v2 e2 p1 p2=>?_;rw [show v= .type "str" from pv];rw [show v1= .type "str" from p1,show v2= .type "bytes" from p2] at e2;refine call_function_any PySem.F.kind_issubclass PySem.F.plain_issubclass PySem.F.entry_issubclass (PySem.F.args_issubclass_2 _ _) ?_;refine issubclass_outer (R:=λ r s'=>match r with| .ok (.ret v)=>End S (is true) s v s'| .ok _=>False| .error e=>dj e s') ?_;exact DU rfl (ao _ _ ht) e2 ⟨cB _,is_bool.mpr rfl⟩
def iN {t:Tx}:fJ A (.builtin "isinstance") [is t,lit (.type "bytes")] (is false):=λ S s vs T fr p=>by refine bU p.two λ v u fR pv q=>?_;subst fR;refine aM (bz.mp pv) λ tk eK=>?_;subst eK;rw [show u= .type "bytes" from q];refine call_isinstance (isinstance_false_str abd (by kernel_rfl) (by rw [isSubtype_type];kernel_rfl)) ⟨dG _ _,is_bool.mpr rfl⟩
def IS {vs:List α} (e:vs.length=n+1):∃v us,vs=v::us/\us.length=n:=by
 cases vs with
 |nil=>cases e
 |cons v us=>exact d8 v us rfl (Nat.succ.inj e)
def Nz {vs:List α} (e:vs.length=2):∃v u,vs=[v,u]:=by refine bu (IS e) λ v us q e=>?_;refine aM (List.length_eq_one_iff.mp e) λ u r=>?_;exact ⟨v,u,by rw [q,r]⟩
def NB {vs:List α} (e:vs.length=3):∃v u y,vs=[v,u,y]:=by refine bu (IS e) λ v us q e=>?_;refine cS (Nz e) λ u y r=>?_;exact ⟨v,u,y,by rw [q,r]⟩
def mY {a:Str} (h:∀v,bindArgs fd ⟨[v],[]⟩=pure [(a,v)]):kH fd [P] [(a,P)]:=pM λ s vs e=>by refine aM (List.length_eq_one_iff.mp e) λ v q=>?_;subst q;exact ⟨_,BindsTo.of_eq (h v),λ h p=>iJ rfl p.1 trivial⟩
def kn {t:Tx} (abx:cy 1 A):fJ A (.ref 256) [is t] (is t):=by
 refine ju (n:=0) (ρ:=[("path",is t)]) (o:=MX) abl rfl aaT ⟨255,MW,_,_,rfl,by rfl,rfl,rfl⟩ abx (mY λ v=>by rfl) ["path"] rfl abd abd ?_;intro aw az aa S s' A' aY f;refine aU f (P:=lit (.type "str")) (ba (f:=.type "type") (YN:=[is t]) aQ (au af aB) aR trivial BA) abd aR λ aj f=>?_;refine f6 f (b:=true) ?_ (λ ξ aA f=>?_) xR
 ·refine cM ?_ gk aR;exact ba (f:=.builtin "issubclass") (YN:=[lit (.type "str"),f5 [lit (.type "str"),lit (.type "bytes")]]) aQ (au af (au (nF (au aQ (au aQ aB)) (by rw [br];decide)) aB)) aR trivial x8
 ·exact dO f (P:=is t) af λ v aH f' p=>f'.gc (F:=[]) p
def ua {t:Tx} (abx:cy 1 A):fJ A (.ref 270) [is t] (is (Tx.mk ['/'])):=by
 refine ju (n:=0) (ρ:=[("path",is t)]) (o:=MZ) abl rfl aaT ⟨269,MY,_,_,rfl,by rfl,rfl,rfl⟩ abx (mY λ v=>by rfl) ["path"] rfl abd abd ?_;intro aw az aa S s' A' aY f;refine f6 f (b:=false) ?_ (by simp) (λ ξ aA f=>?_)
 ·refine cM ?_ gk aR;exact ba (f:=.builtin "isinstance") (YN:=[is t,lit (.type "bytes")]) aQ (au af (au aQ aB)) aR trivial iN
 ·exact dO f (P:=is (Tx.mk ['/'])) (cD _ abl) λ v aH f' p=>f'.gc (F:=[]) p
def pW {x y:Tx}:fJ A (.builtin "str.startswith") [is x,is y] (is (Txt.startswith x.s y.s)):=λ S s vs T fr p=>by refine bU p.two λ v u cX p1 p2=>?_;subst cX;refine aM (bz.mp p1) λ t c7=>?_;subst c7;refine aM (bz.mp p2) λ t' d6=>?_;subst d6;exact SC.startswith ⟨cB _,is_bool.mpr rfl⟩
def z7 {x y:Tx}:fJ A (.builtin "str.endswith") [is x,is y] (is (Txt.endswith x.s y.s)):=λ S s vs T fr p=>by refine bU p.two λ v u dI p1 p2=>?_;subst dI;refine aM (bz.mp p1) λ t ff=>?_;subst ff;refine aM (bz.mp p2) λ t' fR=>?_;subst fR;exact SC.endswith ⟨cB _,is_bool.mpr rfl⟩
def GN {x y:Tx}:fJ A (.builtin "str.rfind") [is x,is y] (is (Txt.rfind x.s y.s)):=λ S s vs T fr p=>by refine bU p.two λ v u eK p1 p2=>?_;subst eK;refine aM (bz.mp p1) λ t eL=>?_;subst eL;refine aM (bz.mp p2) λ t' gG=>?_;subst gG;exact SC.rfind ⟨dG _ _,bD.mpr ⟨_,rfl⟩⟩
def DV {x y r:Tx} (hr:Txt.rstripChars x.s y.s=r.s) (hz:x.cs.length<=sizeLine):fJ A (.builtin "str.rstrip") [is x,is y] (is r):=λ S s vs T fr p=>by refine bU p.two λ v u il p1 p2=>?_;subst il;refine aM (bz.mp p1) λ t gi=>?_;subst gi;refine aM (bz.mp p2) λ t' gM=>?_;subst gM;exact SC.rstripChars (λ t' k=>⟨dG _ _,bz.mpr ⟨_,by rw [hr]⟩⟩) (by rw [Tx.len];exact hz)
def DW:∀{l:List (Str×Tok)} {rs:List Tx},l.map (·.1)=rs.map Tx.s->AllP g (rs.map is) (PySem.strValues l):=by
 intro l;induction l with
 |nil=>
  intro Z2;cases Z2 with
  |nil=>intro _;exact trivial
  |cons _ _=>intro h;simp at h
 |cons aa8 l ih=>
  intro Z2;cases Z2 with
  |nil=>intro h;simp at h
  |cons r rs=>
   obtain ⟨a,t⟩:=aa8;intro h;rw [List.map_cons,List.map_cons] at h;injection h with h1 h2;exact ⟨bz.mpr ⟨t,by rw [<-h1]⟩,ih h2⟩
def tE {x y:Tx} (hr:Txt.split x.s y.s=rs.map Tx.s) (hy:y.cs.isEmpty=false) (hz:x.cs.length<=sizeLine) (UT:rs.length<=sizeLine):fJ A (.builtin "str.split") [is x,is y] (is rs):=λ S s vs T fr p=>by
 refine bU p.two λ v u fN p1 p2=>?_;subst fN;refine aM (bz.mp p1) λ t fO=>?_;subst fO;refine aM (bz.mp p2) λ t' gN=>?_;subst gN;have Lv:(y.s.length==0)=false:=by
  rw [Tx.len];obtain ⟨c⟩:=y;cases c with
  |nil=>cases hy
  |cons _ _=>rfl
 have hx:x.s.length<=sizeLine:=by rw [Tx.len];exact hz
 have fin:∀(l:List (Str×Tok)) tk,l.map (·.1)=rs.map Tx.s->End S (is rs) s (.ref s.heap.objs.size) {s with toks:=tk,heap:=s.heap.push {cls:=.type "list",data:=.seq (PySem.strValues l).toArray}}:=λ l tk e=>
  ⟨gK _ _ _,is_list.mpr ⟨_,_,0,rfl,eZ fr rfl,DW e⟩⟩
 unfold Txt.split at hr;cases h1:(decide (x.s.length<y.s.length)||decide (PySem.Builtin.Str.strKind x.s<PySem.Builtin.Str.strKind y.s))
 ·rw [if_neg (by rw [h1];decide)] at hr;cases hf:(PySem.Builtin.Str.occurrences x.s y.s 0 x.s.length (x.s.length+1)).isEmpty
  ·rw [if_neg (by rw [hf];decide)] at hr;have hl:(PySem.Builtin.Str.partsBetween x.s (PySem.Builtin.Str.occurrences x.s y.s 0 x.s.length (x.s.length+1)) y.s.length).length<=sizeLine:=by rw [hr,lm];exact UT
   refine call_meets PySem.F.slot_str_split (typeIs_str _ _ _) PySem.F.entry_str_split (PySem.F.args_str_split_2 _ _) (PySem.meets_str_split_sep x.s y.s t t' h1 Lv hf hx hl) ?_;show End S (is rs) s _ {s with toks:=_,heap:=s.heap.push {cls:=.type "list",data:=.seq (PySem.strsFrom s.toks (PySem.Builtin.Str.partsBetween x.s (PySem.Builtin.Str.occurrences x.s y.s 0 x.s.length (x.s.length+1)) y.s.length)).toArray}};rw [PySem.strsFrom_eq];exact fin _ _ ((PySem.numbered_texts _ _).trans hr)
  ·rw [if_pos hf] at hr;exact call_meets PySem.F.slot_str_split (typeIs_str _ _ _) PySem.F.entry_str_split (PySem.F.args_str_split_2 _ _) (PySem.meets_str_split_not_found x.s y.s t t' h1 Lv hf) (fin [(x.s,t)] s.toks hr)
 ·rw [if_pos h1] at hr;exact call_meets PySem.F.slot_str_split (typeIs_str _ _ _) PySem.F.entry_str_split (PySem.F.args_str_split_2 _ _) (PySem.meets_str_split_cannot_occur x.s y.s t t' h1) (fin [(x.s,t)] s.toks hr)
def DX:∀{rs:List Tx} {vs:List Value},AllP g (rs.map is) vs->∃l:List (Str×Tok),PySem.strValues l=vs/\l.map (·.1)=rs.map Tx.s:=by
 intro rs;induction rs with
 |nil=>
  intro Z2;cases Z2 with
  |nil=>intro _;exact ⟨[],rfl,rfl⟩
  |cons _ _=>intros;exact False.elim (by assumption)
 |cons r rs ih=>
  intro Z2;cases Z2 with
  |nil=>intros;exact False.elim (by assumption)
  |cons v vs=>
   intro Ii;obtain ⟨a,b⟩:=Ii;refine aM (bz.mp a) λ t jy=>?_;subst jy;refine aK (ih b) λ l e1 e2=>?_;exact ⟨(r.s,t)::l,by rw [<-e1];rfl,by rw [List.map_cons,List.map_cons,e2]⟩
def wk {x r:Tx} (hr:Txt.join x.s (rs.map Tx.s)=r.s) (ou:JoinOk x.s (rs.map Tx.s)=true):fJ A (.builtin "str.join") [is x,is rs] (is r):=λ S s vs T fr p=>by refine bU p.two λ v u kc p1 p2=>?_;subst kc;refine aM (bz.mp p1) λ t rl=>?_;subst rl;refine bw (is_list.mp p2) λ a vs m Ds ha pa=>?_;subst Ds;refine aK (DX pa) λ l e1 e2=>?_;have hl:=ed (ao _ _ ha);rw [show vs=(PySem.strValues l).toArray by rw [e1]] at hl;exact SC.join hl e2 ou λ t' k=>⟨dG _ _,bz.mpr ⟨_,by rw [hr]⟩⟩
noncomputable def wm (x:Tx) (l u:Option Int):Tx:=⟨(PySem.Builtin.Str.strSliceIndices l u 1 x.cs.length).filterMap (x.cs[·]?)⟩
def IT (x:Tx) (i:Nat):x.s.cps[i]? =(x.cs[i]?).map Char.toNat:=by show (List.toArray _)[i]? =_;rw [List.getElem?_toArray,List.getElem?_map]
def oD {x r:Tx} {l u:Option Int} (hr:wm x l u=r) (hl:(PySem.Builtin.Str.strSliceIndices l u 1 x.cs.length).length=x.cs.length->r=x) (hz:r.cs.length<=sizeLine):fm A getItem (is x) (ef l u none) (is r):=λ S s a b ξ f p q=>by
 refine aM (bz.mp p) λ t DY=>?_;subst DY;refine kR q λ c l' u' ip DZ e1 e2 e3 hs=>?_;subst DZ;refine cZ hs λ o ho hc hd=>?_;have UU:ip=none:=by cases ip with
  |none=>rfl
  |some _=>cases e3
 subst UU;refine wpAny_getItem_str_slice (l:=l') (u:=u') (st:=none) ⟨o,ao _ _ ho,hc,hd⟩ rfl ?_;unfold sliceMade slicePicked;rw [e1,e2];show (if (((none:Option (Int×Tok)).map (·.1)).getD 1==1&&(PySem.Builtin.Str.strSliceIndices l u 1 x.s.length).length==x.s.length)=true then Made.val (.str x.s t) else Made.str ⟨((PySem.Builtin.Str.strSliceIndices l u 1 x.s.length).filterMap (x.s.cps[·]?)).toArray⟩).post _ _;rw [Tx.len];split
 ·rename_i h;have h':(PySem.Builtin.Str.strSliceIndices l u 1 x.cs.length).length=x.cs.length:=by simpa using h
  rw [hl h'];exact ⟨cB _,bz.mpr ⟨_,rfl⟩⟩
 ·have e:(⟨((PySem.Builtin.Str.strSliceIndices l u 1 x.cs.length).filterMap (x.s.cps[·]?)).toArray⟩:Str)=r.s:=by rw [<-hr];show _=Str.mk (List.map Char.toNat ((PySem.Builtin.Str.strSliceIndices l u 1 x.cs.length).filterMap (x.cs[·]?))).toArray;congr 2;rw [List.map_filterMap];congr 1;funext i;rw [IT]
  rw [e];exact ⟨by rw [Tx.len];exact hz,dG _ _,bz.mpr ⟨_,rfl⟩⟩
def wo {x:Tx} (hz:x.cs.length<=sizeLine):fJ A (.builtin "len") [is x] (is (x.cs.length:Int)):=λ S s vs T fr p=>by refine aK p.one λ v vp p1=>?_;subst vp;refine aM (bz.mp p1) λ t OD=>?_;subst OD;have:=br;refine PySem.P.len_str (by rw [Tx.len];w_up) ⟨dG _ _,bD.mpr ⟨_,by rw [Tx.len]⟩⟩
def x9 (hz:YN.length<=sizeLine):fJ A (.builtin "len") [cH YN] (is (YN.length:Int)):=λ S s vs T fr p=>by refine aK p.one λ v rh p1=>?_;subst rh;refine bw p1 λ a vs m Dj ha pa=>?_;subst Dj;have e1:=pa.length;rw [Array.length_toList] at e1;have:=br;exact Calls.call_len_list (ed (ao _ _ ha)) (by rw [e1];w_up) ⟨dG _ _,bD.mpr ⟨_,by rw [e1]⟩⟩
def dM [aaK α] {xs:List α} (hz:xs.length<=sizeLine):fJ A (.builtin "len") [is xs] (is (xs.length:Int)):=
 (x9 (YN:=xs.map is) (by rw [lm];exact hz)).conv (λ h vs p=>aK p.one λ v e q=>by subst e;exact ⟨is_list.mp q,trivial⟩) λ h v p=>by rw [lm] at p;exact p
def sA (hz:YN.length<=sizeLine):fJ A (.builtin "len") [f5 YN] (is (YN.length:Int)):=λ S s vs T fr p=>by refine aK p.one λ v Dk p1=>?_;subst Dk;refine bw p1 λ a vs m ve ha pa=>?_;subst ve;have e1:=pa.length;rw [Array.length_toList] at e1;have:=br;exact PySem.P.len_tuple (ao _ _ ha) (by rw [e1];w_up) ⟨dG _ _,bD.mpr ⟨_,by rw [e1]⟩⟩
def my {x:Tx} {id:String} (slot:Slot "str" name id) (ty:typeOf (.builtin id)=pure (.type "method_descriptor")):GM A (is x) name (.builtin id):=λ s v pl Q E p T q=>by refine aM (bz.mp p) λ t Dt=>?_;subst Dt;exact GM.of _ (typeIs_str _ _ _) slot ty GM.noRef q
def uc {a b:Tx} (hz:a.cs.length+b.cs.length<=sizeLine):fm A (inplaceOp .Add) (is a) (is b) (is (a++b)):=λ S s u v ξ ξ p q=>by refine aM (bz.mp p) λ t cX=>?_;subst cX;refine aM (bz.mp q) λ t' c7=>?_;subst c7;exact PyProof.Rows.iadd_str (λ t' tk=>⟨dG _ _,bz.mpr ⟨_,by rw [Tx.jI]⟩⟩) (by rw [Tx.len,Tx.len];exact hz)
def D0 {x r:Tx} {n:Int} (h1:1<=n) (hn:n<=1000) (hx:x.cs.length<=100) (hr:(if (n==1||x.cs.length==0)=true then x.s else ⟨(List.replicate n.toNat x.s.cps).foldl (·++·) #[]⟩)=r.s) (hz:r.cs.length<=sizeLine):fm A (binaryOp .Mult) (is x) (is n) (is r):=λ S s a b ξ f p q=>by
 refine aM (bz.mp p) λ t d6=>?_;subst d6;refine aM (bD.mp q) λ t' dI=>?_;subst dI;have hl:=br;have UW:x.cs.length*n.toNat<=100*1000:=Nat.mul_le_mul hx (by w_up);refine PySem.P.mul_str ?_ (λ ξ ξ=>?_) (λ ξ ξ=>?_) ?_
 ·have e1:¬n< -(2^63:Int):=by w_up
  have e2:¬n>=2^63:=by w_up
  rw [decide_eq_false e1,decide_eq_false e2];rfl
 ·rw [Tx.len];have:(100:Int)<=(2^63 - 1) / n:=by apply (Int.le_ediv_iff_mul_le (by w_up)).mpr;w_up
  w_up
 ·rw [Tx.len];unfold PySem.Builtin.Str.tooLong;rw [decide_eq_false_iff_not];w_up
 ·rw [if_neg (by w_up),Tx.len];split
  ·rename_i h;rw [if_pos h] at hr;exact ⟨cB _,bz.mpr ⟨_,by rw [hr]⟩⟩
  ·rename_i h;rw [if_neg h] at hr;rw [hr];exact ⟨by rw [Tx.len];exact hz,dG _ _,bz.mpr ⟨_,rfl⟩⟩
def YH (gy ρ:eV):Prop:=∀n P,gy.lookup n=some P->ρ.lookup n=some P
def bO {ρ:eV}:YH [] ρ:=λ ξ ξ h=>by cases h
def ay {n:Str} (h:ρ.lookup n=some P) (k:YH gy ρ):YH ((n,P)::gy) ρ:=λ m Q e=>by
 rw [List.lookup_cons] at e;by_cases q:m=n
 ·subst q;rw [beq_self_eq_true] at e;cases e;exact h
 ·rw [beq_eq_false_iff_ne.mpr q] at e;exact k m Q e
def wt {a p:Str} (hz:YN.length<=sizeLine) (h:∀v vs,bindArgs fd ⟨v::vs,[]⟩=(do let t<-newTuple vs;pure [(a,v),(p,t)])):kH fd (P::YN) [(a,P),(p,f5 YN)]:=λ S s vs A Q E fr pp k=>by
 match vs,pp with
 |v::vs,⟨p1,p2⟩=>
  rw [h];refine Z4 (wpAny_newTuple (X5 (k _ _ (gK _ _ _) ⟨rfl,P.mono (aJ (kle (gK s _ s.toks))) p1,rfl,⟨_,_,0,rfl,eZ fr rfl,p2.mono (aJ (kle (gK s _ s.toks)))⟩,trivial⟩)) ?_);rw [p2.length];exact hz
def D3 {yF:ExceptHandler} {hs:List ExceptHandler} (h:wpAny (model XX w) A (execs bM aa) (rn A aa aD Q dj) dj s):
  wpAny (model XX w) A (execs (.Try bM (yF::hs) [] [] ar::aD) aa) Q dj s:=
 YF (wpAny_Try_except (Zh h (λ fl aj q=>by
  cases fl with
  |next=>exact wpAny_execs_nil q
  |_=>exact q) eY))
noncomputable abbrev aF:Tx:=⟨['/']⟩
def fL (p b:Tx):Tx:=if (Txt.startswith b.s aF.s||p.cs.isEmpty)=true then b else if Txt.endswith p.s aF.s=true then p++b else p++(aF++b)
def cj (a:Tx) (bs:List Tx):Tx:=bs.foldl fL a
def nv (p b:Tx):(fL p b).cs.length<=p.cs.length+b.cs.length+1:=by
 unfold fL;split
 ·w_up
 ·split
  ·rw [Tx.d9,gD];w_up
  ·rw [Tx.d9,Tx.d9,gD,gD];show _+(1+_)<=_;w_up
def z8:∀(bs:List Tx) (a:Tx) (m:Nat),(∀b∈bs,b.cs.length<=m)->(cj a bs).cs.length<=a.cs.length+bs.length*(m+1):=by
 intro bs;induction bs with
 |nil=>intro a m _;simp [cj]
 |cons b bs ih=>
  intro a m h;have:=ih (fL a b) m λ c hc=>h c (Ym _ hc);have h1:=nv a b;have h2:=h b di;show (cj (fL a b) bs).cs.length<=_;rw [List.length_cons,Nat.succ_mul];w_up
def nw {a:Tx} {bs:List Tx} (abx:cy 2 A) (ha:a.cs.length<=1000) (hb:∀b∈bs,b.cs.length<=1000) (hn:bs.length<=1000):fJ A (.ref 277) (is a::bs.map is) (is (cj a bs)):=by
 have hl:=br;refine ju (n:=1) (ρ:=[("a",is a),("p",f5 (bs.map is))]) (o:=M1) abl rfl aaT ⟨276,M0,_,_,rfl,by rfl,rfl,rfl⟩ abx (wt (by rw [lm];w_up) λ v vs=>by cases vs<;>rfl) ["a","p"] rfl abd abd ?_;intro aw az aa S s' A' aY f;refine aU f (P:=is a) (ba (f:=.ref 256) (YN:=[is a]) cI (au af aB) aR ⟨_,_,by rfl,rfl⟩ (kn aY)) abd aR λ aj f=>?_;refine aU f (P:=is aF) (ba (f:=.ref 270) (YN:=[is a]) cI (au af aB) aR ⟨_,_,by rfl,rfl⟩ (ua aY)) abd aR λ aj f=>?_;refine aU f (P:=is a) af abd aR λ aj f=>?_;refine D3 ?_;refine lC (ai:=bs) (abL:=is) (Ok:=Plain) (β:=λ b=>[("b",is b)]) (f9:=λ i=>[("path",is (cj a (bs.take i))),("sep",is aF),("p",f5 (bs.map is))]) (ZH:=λ ξ=>Y8) (lT:=[("path",is (cj a bs))]) (aap:=Y8)
  f (ay abl (ay abl (ay abl bO))) (ki aY.handled af) (.name _ _) (λ ξ=>rfl) (λ b ξ=>bB abd) (λ ξ ξ h=>h) (λ ξ h=>h) ?_ (λ S' s' f=>f.ek (ay (by rw [List.take_length];rfl) bO)) λ aA f=>?_
 ·intro i hi K S' aA hK f;refine Yj λ Q hQ=>?_;have lB:=hb _ (List.getElem_mem hi);have hp:=z8 (bs.take i) a 1000 λ b m=>hb b (List.mem_of_mem_take m);have ht:(bs.take i).length<=1000:=by rw [List.length_take];w_up
  have Ba:(cj a (bs.take i)).cs.length<=1000+1000*1001:=by have:(bs.take i).length*(1000+1)<=1000*1001:=Nat.mul_le_mul ht (Nat.le_refl _);w_up
  have hj:cj a (bs.take (i+1))=fL (cj a (bs.take i)) bs[i]:=by unfold cj;rw [List.take_add_one,List.getElem?_eq_getElem hi,List.foldl_append];rfl
  refine aU f (P:=is bs[i]) (ba (f:=.ref 256) (YN:=[is bs[i]]) cI (au af aB) aR ⟨_,_,by rfl,rfl⟩ (kn aY)) abd aR λ aH f=>?_;have Xh:∀{ρ:eV} {q:Pos} {q':Pos} {GO:Pos} {Yc:Pos},True:=trivial;refine f6 f (b:=(Txt.startswith bs[i].s aF.s||(!(!(cj a (bs.take i)).cs.isEmpty)||false))) ?_ (λ h bS f=>?_) (λ h bS f=>?_)
  ·refine fo (iL (cM (g4 (gZ:=is bs[i]) (YN:=[is aF]) af (my PySem.F.slot_str_startswith PySem.F.type_str_startswith) (au af aB) aR trivial pW (λ ξ=>⟨_,rfl⟩)) gk aR) λ ξ=>iL (l7 (cM af (ri (by w_up)) aR)) λ ξ=>jK)
  ·have hs:fL (cj a (bs.take i)) bs[i]=bs[i]:=by unfold fL;rw [if_pos (by simpa using h)]
   refine aU f (P:=is bs[i]) af abd aR λ bY f=>?_;exact bf (bf (hQ .next _ (f.ek (ay (by rw [hj,hs];rfl) (ay abl (ay abl bO))))))
  ·refine f6 f (b:=Txt.endswith (cj a (bs.take i)).s aF.s) ?_ (λ h' bY f=>?_) (λ h' bY f=>?_)
   ·exact cM (g4 (gZ:=is (cj a (bs.take i))) (YN:=[is aF]) af (my PySem.F.slot_str_endswith PySem.F.type_str_endswith) (au af aB) aR trivial z7 (λ ξ=>⟨_,rfl⟩)) gk aR
   ·have hs:fL (cj a (bs.take i)) bs[i]=cj a (bs.take i)++bs[i]:=by unfold fL;rw [if_neg (by simpa using h),if_pos h']
    refine Ih f (P:=is (cj a (bs.take i)++bs[i])) abl abd abd af (uc (by w_up)) abd λ dK f=>?_;exact bf (bf (bf (hQ .next _ (f.ek (ay (by rw [hj,hs];rfl) (ay abl (ay abl bO)))))))
   ·have hs:fL (cj a (bs.take i)) bs[i]=cj a (bs.take i)++(aF++bs[i]):=by unfold fL;rw [if_neg (by simpa using h),if_neg (by simpa using h')]
    have e1:aF.cs.length=1:=rfl;refine Ih f (P:=is (cj a (bs.take i)++(aF++bs[i]))) abl abd abd (c6 af af (jx (by w_up))) (uc (by rw [Tx.d9,gD];w_up)) abd λ dK f=>?_;exact bf (bf (bf (hQ .next _ (f.ek (ay (by rw [hj,hs];rfl) (ay abl (ay abl bO)))))))
 ·exact bf (dO f (P:=is (cj a bs)) af λ v aH f' p=>f'.gc (F:=[]) p)
def iZ {D:List Addr} (hD:∀b∈D,b∈S) (hs:∀b o,b∉D->h.get? b=some o->h'.get? b=some o) (hn:∀b∈N,h.get? b=none):XN (hide S h) (hide (N++S) h'):=λ b o e=>by
 rw [bI] at e⊢;split at e
 ·cases e
 ·rename_i hb;rw [if_neg λ m=>?_]
  ·exact hs b o (λ m=>hb (hD b m)) e
  ·rcases bR m with q|q
   ·rw [hn b q] at e;cases e
   ·exact hb q
def YQ.step {D:List Addr} (f:YQ sc ak F aw az aa ρ J S s) (hb:∀b∈D,b∈J.fp) (hs:∀b o,b∉D->s.heap.get? b=some o->h'.get? b=some o) (hl:∀b∈D,∃o,h'.get? b=some o)
  (hn:∀b∈N,s.heap.get? b=none) (hN:∀b∈N,∃o,h'.get? b=some o) {tk:Nat} (hj:aa_.p (hide (N++S) h') h') (hf:∀b∈aa_.fp,b∈J.fp\/b∈N):YQ sc ak F aw az aa ρ aa_ (N++S) {s with heap:=h',toks:=tk}:=by
 have le:=iZ (λ b m=>(f.aar b (hb b m)).1) hs hn;have ir:aa.locals∉D:=λ m=>(f.aar _ (hb _ m)).2.1 rfl;have iX:∀n b,aa.cells.lookup n=some b->b∉D:=λ n b e m=>(f.aar b (hb b m)).2.2.1 n e;have mT:∀b,s.heap.get? b=none->az.heap.get? b=none:=λ b h=>by
  cases e:az.heap.get? b with
  |none=>rfl
  |some o=>refine aM (f.aaH.live _ _ e) λ o' z=>?_;rw [h] at z;cases z
 have fx:∀b o,s.heap.get? b=some o->∃o',h'.get? b=some o':=λ b o e=>by
  by_cases m:b∈D
  ·exact hl b m
  ·exact ⟨o,hs b o m e⟩
 exact {
  cx:=⟨f.cx.names,f.cx.kind,f.cx.glob,f.cx.bi,λ n P e=>(f.cx.vars n P e).map (λ m v z q d=>cY z λ o es ep a r=>bW m v ⟨o,es,ep,hs _ _ ir a,r⟩ q (P.mono le d)) λ ξ c v a z d=>aK z λ o q r=>bW c v a ⟨o,hs _ _ (iX _ _ a) q,r⟩ (P.mono le d),λ b hb=>by
    rcases bR hb with m|m
    ·exact hN b m
    ·refine aM (f.cx.b4 b m) λ o e=>?_;exact fx b o e,f.cx.top.mono le⟩
  Zt:=by have o:=f.Zt.keep (λ o e=>hs _ o ir e) λ n ξ c q o e=>hs _ o (iX n c q) e;exact ⟨bC _ o.loc,o.ns,λ n hn q=>let ⟨c,v,a,b,d⟩:=o.gb n hn q;⟨c,v,a,bC _ b,d⟩,o.inj⟩
  aaH:=by
   refine cS f.aaH.same λ yF Fs iM=>?_;refine ⟨⟨h',tk,by rw [iM]⟩,λ d o nd x=>?_,λ d o x=>let ⟨o',y⟩:=f.aaH.live d o x;fx d o' y⟩;refine hs d o (λ m=>?_) (f.aaH.keep d o nd x);rcases (f.aar d (hb d m)).2.2.2 with z|z
   ·exact nd z
   ·rw [x] at z;cases z
  sub:=λ b hb=>bC _ (f.sub b hb)
  new:=λ b hb=>by
   rcases bR hb with m|m
   ·exact .inr (mT b (hn b m))
   ·exact f.new b m
  loc:=f.loc
  gb:=f.gb
  cl:=λ n b e=>let ⟨o,q⟩:=f.cl n b e;⟨o,hs b o (iX n b e) q⟩
  jp:=hj
  aar:=λ b hb=>by
   rcases hf b hb with m|m
   ·refine jw (f.aar b m) λ a1 a2 a3 a4=>?_;exact iD (bC _ a1) a2 a3 a4
   ·refine iD (bL _ m) (λ q=>?_) (λ n q=>?_) (.inr (mT b (hn b m)))
    ·refine aM f.Zt.ns λ ξ eL=>?_;refine cY eL λ o ξ ξ e ξ=>?_;rw [<-q,hn b m] at e;cases e
    ·refine aM (f.cl n b q) λ o e=>?_;rw [hn b m] at e;cases e}
def YQ.store (f:YQ sc ak F aw az aa ρ J S s) (hx:cw ak sc z=true) (p:P.p (hide S s.heap) v)
  (k:∀s',YQ sc ak F aw az aa ((z,P)::ρ) J S s'->XF () s'):wpAny (model XX w) A (storeName aa z v) XF E s:=
 gO f.cx f.Zt hx p λ aA a b d g=>k aA (f.kept a b d g)
noncomputable abbrev NC (s:Stmt):Expr:=(K9 s).2.2.2
noncomputable def IU:Expr->Arguments
 | .Lambda a _ _ _=>a
 |_=>default
noncomputable def yQ:Expr->Expr
 | .Lambda _ b _ _=>b
 |_=>default
noncomputable def q1:Expr->Scope
 | .Lambda _ _ s _=>s
 |_=>default
noncomputable def FA (l:List Stmt) (i:Nat):Stmt:=match l.drop i with
 |st::_=>st
 |[]=>.Pass default
abbrev OE:Expr:=NC (FA (m9 (fk 30)) 2)
abbrev ln2:Expr:=NC (FA (m9 (fk 30)) 3)
noncomputable abbrev Lw (fd:FuncData):Obj:={cls:=.type "function",data:=.func fd}
structure XQ where
 f:Addr
 abF:Obj
 fd:FuncData
 dx:Addr
 m:Str->Option Value
 g:Addr
 cl:List (Str×Addr)
 pm:Value
 cd:Value
 ct:Value
 c1:Addr
 c2:Addr
 t1:Tok
 t2:Tok
structure sC (h:Heap) (cQ:Tx) (c8:Bool) (d:XQ):Prop where
 f_:h.get? d.f=some d.abF
 cls:d.abF.cls= .type "function"
 data:d.abF.data= .func d.fd
 dict:d.abF.dict=some d.dx
 ns:h.Ns d.dx d.m
 ap:d.m "applies_to"=some (.ref d.g)
 al:d.m "allowance"=some (.bool c8)
 g_:h.get? d.g=some (Lw (wh (IU ln2) (yQ ln2) (q1 ln2) d.cl d.pm d.cd d.ct))
 co:h.CodeRec d.cd pV
 l1:d.cl.lookup ("path":Str)=some d.c1
 l2:d.cl.lookup ("size":Str)=some d.c2
 OF:h.IsCell d.c1 (some (.str cQ.s d.t1))
 OG:h.IsCell d.c2 (some (.int cQ.cs.length d.t2))
def sC.mono {c8:Bool} {d:XQ} (L:sC g cQ c8 d) (k:XN g h):sC h cQ c8 d:=
 ⟨k _ _ L.f_,L.cls,L.data,L.dict,L.ns.keeps k,L.ap,L.al,k _ _ L.g_,L.co.keeps k,L.l1,L.l2,L.OF.keeps k,L.OG.keeps k⟩
noncomputable def rB (cQ:Tx) (c8:Bool):YJ:=
 ⟨λ h v=>∃d:XQ,v= .ref d.f/\sC h cQ c8 d,λ k x=>aK x λ d e x=>cV d e (x.mono k)⟩
noncomputable def ND (f:Addr) (fd:FuncData):XW:=⟨[f],λ g h=>FnAt h f (Lw fd) fd (λ ξ=>none),λ le ξ ξ k x=>⟨k f di _ x.at_,x.cls,x.data,.inl ⟨rfl,λ ξ=>rfl⟩⟩⟩
noncomputable def BB (f dx:Addr) (fd:FuncData) (m:Str->Option Value) (ns:List Str):XW:=
 ⟨[f,dx],λ ZM h=>(∃abF,FnAt h f abF fd m/\abF.dict=some dx)/\Within m ns,
  λ le ξ ξ k ⟨⟨abF,x,e⟩,Xz⟩=>⟨⟨abF,⟨k f (by simp) _ x.at_,x.cls,x.data,by
   rcases x.dict with ⟨q,_⟩|⟨d,abe,aaL,Yc⟩
   ·rw [q] at e;cases e
   ·rw [e] at abe;cases abe;exact .inr ⟨dx,e,aaL,Yc.at λ o q=>k dx (by simp) o q⟩⟩,e⟩,Xz⟩⟩
def aby (g:Addr) (gd:FuncData):XW:=⟨[g],λ ZM h=>h.get? g=some (Lw gd)/\ZM.CodeRec gd.code pV,λ le ξ ξ k ⟨y,z⟩=>⟨k g (by simp) _ y,z.keeps le⟩⟩
def wu (A:Around) (f:Value) (YN:List YJ) (J aa_:XW) (P:YJ):Prop:=
 ∀S (s:Shared) vs,er (hide S s.heap)->(∀b∈S,∃o,s.heap.get? b=some o)->(∀b∈J.fp,b∈S)->J.p (hide S s.heap) s.heap->AllP (hide S s.heap) YN vs->
  wpAny (model XX w) A (call f vs []) (λ v s'=>abO J.fp s s'/\aa_.p (hide S s'.heap) s'.heap/\P.p (hide S s'.heap) v) dj s
def pX {a b:Str} (h:∀v u,bindArgs fd ⟨[v,u],[]⟩=pure [(a,v),(b,u)]):kH fd [gZ,aV] [(a,gZ),(b,aV)]:=pM λ s vs e=>by refine cS (Nz e) λ v u q=>?_;subst q;exact ⟨_,BindsTo.of_eq (h v u),λ h p=>Fc rfl p.1 rfl p.2.1 trivial⟩
def dX (fi:Tx):Tx:=cj fi [⟨[]⟩]
def yR {cd:Value} {q:Str} (x:(hide S h).CodeRec cd q) (hn:∀b∈N,∃o,h.get? b=some o/\∀vs,o.data≠ .fields vs):(hide (N++S) h).CodeRec cd q:=by
 obtain ⟨c,o,vs,t,e,g,d,r⟩:=x;refine ⟨c,o,vs,t,e,?_,d,r⟩;rw [bI] at g⊢;split at g
 ·cases g
 ·rename_i hb;rw [if_neg λ m=>?_]
  ·exact g
  ·rcases bR m with m|m
   ·refine aK (hn c m) λ o' e' hd=>?_;rw [g] at e';cases e';exact hd _ d
   ·exact hb m
def tF (x:dW.p (hide S h) h) (hn:∀b∈N,∃o,h.get? b=some o/\∀vs,o.data≠ .fields vs):dW.p (hide (N++S) h) h:=by refine cZ x λ ps a b c=>?_;exact eX ps a b (λ p d e=>yR (c p d e) hn)
def qE (x:h.Ns1 a m):∃o,h.get? a=some o/\∀vs,o.data≠ .fields vs:=by refine bw x λ o es ep e d ξ=>?_;exact cV o e (λ vs q=>by rw [d] at q;cases q)
def in1 {p:Addr->Prop} (h:p a):∀b∈[a],p b:=λ b m=>by rw [bj m];exact h
def uJ {c:Addr} {p:Addr->Prop} (h:p a) (h':p c):∀b∈[a,c],p b:=λ b m=>by
 rcases cF m with rfl|m
 ·exact h
 ·rw [bj m];exact h'
abbrev D4 (pm cd ct:Value):FuncData:=wh (IU OE) (yQ OE) (q1 OE) [] pm cd ct
abbrev GP (cl:List (Str×Addr)) (pm cd ct:Value):FuncData:=wh (IU ln2) (yQ ln2) (q1 ln2) cl pm cd ct
noncomputable abbrev Lx (g:Addr):Str->Option Value:=λ y=>if y="applies_to" then some (.ref g) else none
noncomputable abbrev IV (al:Bool) (g:Addr):Str->Option Value:=λ y=>if y="allowance" then some (.bool al) else if y="applies_to" then some (.ref g) else none
abbrev aaE (f d g:Addr) (a b:FuncData) (m:Str->Option Value) (ns:List Str):XW:=(dW.and (BB f d a m ns)).and (aby g b)
def z9 {fi:Tx} {c8:Bool} (abx:cy 3 A) (hp:fi.cs.length<=1000) (Xi:(dX fi).cs.length<=2000):wu A (.ref 322) [is fi,is c8] dW dW (rB (dX fi) c8):=λ aw az vs T fr abg hJ p=>by
 have hl:=br;have wi:317∈aw:=abg 317 (List.mem_singleton.mpr rfl);refine kI (ρ:=[("page",is fi),("allowed",is c8)]) (J:=dW) (F:=[317]) (o:=Nd) T fr abx p abl rfl aaT ⟨321,HO,_,_,rfl,by rfl,rfl,rfl⟩ ["page","allowed"]
  (pX (λ a b=>by rfl)) abl abd abd hJ (λ b m=>by rw [bj m];exact ⟨wi,List.mem_singleton.mpr rfl⟩) λ A' Q' aa S s aY i0 hQ wj OH ξ f=>?_
 have hq:aa.qual++"<lambda>"=pV:=by rw [OH];rfl
 refine aU f (P:=is (dX fi)) (ba (f:=.ref 277) (YN:=[is fi,is (Tx.mk [])]) cI (au af (au (cD ⟨[]⟩ abl) aB)) aR ⟨_,_,by rfl,rfl⟩ (nw (bs:=[⟨[]⟩]) aY hp (by simp) (by simp))) abd aR λ aj f=>?_;refine aU f (P:=is ((dX fi).cs.length:Int)) (ba (f:=.builtin "len") (YN:=[is (dX fi)]) aQ (au af aB) aR trivial (wo (by w_up))) abd aR λ aA f=>?_;have tG:317∈S:=f.sub _ wi;refine YF (wpAny_Assign_Name (hs:=by rfl) (yP (cl:=[]) f.cx tG wj hq f.jp abl abl λ fA pm cd ct h' tk bq Yu YK Zq Zn rec XI=>?_));have Ly:fA≠317:=λ q=>Zq (q▸tG);have f:=f.step (D:=[317]) (N:=[fA]) (aa_:=dW.and (ND fA _)) (tk:=tk) (λ b m=>m) (λ b o n e=>bq b o (λ q=>n (List.mem_singleton.mpr q)) e) (in1 Yu)
  (in1 YK) (in1 ⟨_,Zn⟩) ⟨tF XI (in1 ⟨_,Zn,λ vs q=>nomatch q⟩),Zn,rfl,rfl,.inl ⟨rfl,λ ξ=>rfl⟩⟩ (λ b m=>bR m)
 refine f.store (z:="line") (P:=lit (.ref fA)) abd rfl λ aH f=>?_;have h3:317∈[fA]++S:=bC _ tG;have qS:∃cl,closureFor (q1 ln2) aa=pure cl/\∀n,cl.lookup n=(if ((q1 ln2).names.any λ x=>x.1==n&&x.2== .free) then aa.cells.lookup n else none):=l9 λ x hx hf=>by
  have a8:∀n P,f.cx.vars n P=f.cx.vars n P:=λ ξ ξ=>rfl;have By:x.1="path"\/x.1="size":=by
   have:x∈[(("name":Str),NameKind.local),("path",NameKind.free),("size",NameKind.free)]:=hx;rcases cF this with rfl|this
   ·cases hf
   ·rcases cF this with rfl|this
    ·exact .inl rfl
    ·rw [bj this];exact .inr rfl
  rcases By with e|e<;>rw [e]
  ·have y:=f.cx.vars "path" _ abl;unfold et at y;rw [f.cx.kindOf] at y;refine bu y λ c v a ξ=>?_;exact ⟨c,a⟩
  ·have y:=f.cx.vars "size" _ abl;unfold et at y;rw [f.cx.kindOf] at y;refine bu y λ c v a ξ=>?_;exact ⟨c,a⟩
 refine aK qS λ cl qS Rd=>?_;refine YF (plainObj_wpAny_Assign_Attribute (hs:=by rfl) (yP (cl:=cl) f.cx h3 wj hq f.jp.1 qS abl λ abA D5 D6 D7 h' tk bq Yu YK Zq Zn rec XI=>?_));have Rf:abA≠fA:=λ q=>Zq (q▸bL _ (List.mem_singleton.mpr rfl));have Rg:=f.jp.2;have kf:h'.get? fA=some _:=bq fA _ Ly Rg.at_;have f:=f.step (D:=[317]) (N:=[abA]) (aa_:=(dW.and (ND fA (D4 pm cd ct))).and (aby abA (GP cl D5 D6 D7))) (tk:=tk) (λ b m=>bL _ m) (λ b o n e=>bq b o (λ q=>n (List.mem_singleton.mpr q)) e) (in1 Yu)
  (in1 YK) (in1 ⟨_,Zn⟩) ⟨⟨tF XI (in1 ⟨_,Zn,λ vs q=>nomatch q⟩),kf,rfl,rfl,.inl ⟨rfl,λ ξ=>rfl⟩⟩,Zn,yR rec (in1 ⟨_,Zn,λ vs q=>nomatch q⟩)⟩ (λ b m=>bR m)
 refine (af (A:=A') (sc:=_) (ρ:=_) abl abd abd abd).use f.cx λ v bS nP lO oY=>?_;rw [show v= .ref fA from oY];have f:=f.keep nP;refine Fy (abF:=Lw _) (ns:=[]) (m:=λ ξ=>none) f.jp.1.2 z4 (λ y h=>absurd rfl h) (Nat.zero_le _) λ dx lD h' tk I jQ UX bq=>?_;have hn:bS.heap.get? dx=none:=by
  rcases UX with q|q
  ·cases q
  ·exact q.2
 have Z7:=f.jp.2;have XI:=f.jp.1.1;have fg:∀b o,bS.heap.get? b=some o->b≠dx:=λ b o e q=>by rw [q,hn] at e;cases e
 obtain ⟨dd,abe,aaL,Yc⟩:∃dd,lD.dict=some dd/\dd≠fA/\h'.Ns1 dd (Lx abA):=by
  rcases I.dict with ⟨q,_⟩|q
  ·rw [jQ] at q;cases q
  ·exact q
 rw [jQ] at abe;cases abe;have D8:∃o,h'.get? fA=some o:=⟨_,I.at_⟩;have tH:∀b o,b∉[fA]->bS.heap.get? b=some o->h'.get? b=some o:=λ b o n e=>bq b o (λ q=>n (List.mem_singleton.mpr q)) (fg b o e) e;have IW:fA∈[abA]++([fA]++S):=bC _ (bL _ (List.mem_singleton.mpr rfl));have le:=iZ (S:=[abA]++([fA]++S)) (D:=[fA]) (N:=[dx]) (in1 IW) tH (in1 hn);have f:=f.step (D:=[fA]) (N:=[dx]) (aa_:=aaE fA dx abA (D4 pm cd ct) (GP cl D5 D6 D7) (Lx abA) ["applies_to"]) (tk:=tk)
  (in1 (bL _ (bC _ (List.mem_singleton.mpr rfl)))) tH (in1 D8) (in1 hn) (in1 (let ⟨o,e,_⟩:=qE Yc;⟨o,e⟩))
  ⟨⟨dW.st le ao ao (λ b m o e=>tH b o (λ q=>by rw [bj m] at q;exact Ly (bj q).symm) e) XI,⟨lD,I,jQ⟩,Within.cons _ _ Within.nil⟩,(aby abA _).st le ao ao (λ b m o e=>tH b o (λ q=>by rw [bj m] at q;exact Rf (bj q)) e) Z7⟩
  (λ b m=>by
   rcases bR m with m|m
   ·rcases bR m with m|m
    ·exact .inl (bL _ (bL _ m))
    ·rcases cF m with rfl|m
     ·exact .inl (bL _ (bC _ (List.mem_singleton.mpr rfl)))
     ·exact .inr m
   ·exact .inl (bC _ m))
 refine YF (plainObj_wpAny_Assign_Attribute (hs:=by rfl) ((af (A:=A') (sc:=_) (ρ:=_) (P:=is c8) abl abd abd abd).use f.cx λ v bY qY FD kb=>(af (A:=A') (sc:=_) (ρ:=_) (P:=lit (.ref fA)) abl abd abd abd).use FD λ u dK fz pY oZ=>?_));rw [show u= .ref fA from oZ,is_bool.mp kb];have f:=f.keep (aL qY fz);refine cO f.jp.1.2 λ eL IX=>?_;refine aK eL λ UY IY tK=>?_;refine Fy (ns:=["applies_to"]) IY Fx IX (by simp) λ rC IZ h3 tk Z1 I0 Rh OI=>?_;have UZ:rC=dx:=by
  rcases Rh with q|q
  ·rw [tK] at q;exact (Option.some.inj q).symm
  ·rw [tK] at q;cases q.1
 subst UZ;have Z7:=f.jp.2;have XI:=f.jp.1.1;obtain ⟨dd,abe,aaL,Yc⟩:∃dd,IZ.dict=some dd/\dd≠fA/\h3.Ns1 dd (IV c8 abA):=by
  rcases Z1.dict with ⟨q,_⟩|q
  ·rw [I0] at q;cases q
  ·exact q
 rw [I0] at abe;cases abe;have Ri:=f.aar;have Aa:∀b o,b∉[fA,rC]->dK.heap.get? b=some o->h3.get? b=some o:=λ b o n e=>OI b o (fb n) (fb (f3 n)) e;have Rj:fA∈(aaE fA rC abA (D4 pm cd ct) (GP cl D5 D6 D7) (Lx abA) ["applies_to"]).fp:=
  bL _ (bC _ (by simp [BB]))
 have Rk:rC∈(aaE fA rC abA (D4 pm cd ct) (GP cl D5 D6 D7) (Lx abA) ["applies_to"]).fp:=
  bL _ (bC _ (by simp [BB]))
 have Rl:rC≠317:=λ q=>by
  refine aK XI λ ps e ξ=>?_;rcases IY.dict with ⟨q',_⟩|⟨_,q',_,GO⟩
  ·rw [tK] at q';cases q'
  ·rw [tK] at q';cases q';refine aK (qE GO) λ o e' D9=>?_;rw [q,e] at e';cases e';exact D9 _ rfl
 have U0:rC≠abA:=λ q=>by
  rcases IY.dict with ⟨q',_⟩|⟨_,q',_,GO⟩
  ·rw [tK] at q';cases q'
  ·rw [tK] at q';cases q';refine bw GO λ o es ep e d ξ=>?_;rw [q,Z7.1] at e;cases e;cases d
 have le:=iZ (S:=[rC]++([abA]++([fA]++S))) (D:=[fA,rC]) (N:=[]) (uJ (Ri _ Rj).1 (Ri _ Rk).1) Aa (λ b m=>nomatch m);have f:=f.step (D:=[fA,rC]) (N:=[]) (aa_:=aaE fA rC abA (D4 pm cd ct) (GP cl D5 D6 D7) (IV c8 abA) ["allowance","applies_to"]) (tk:=tk)
  (uJ Rj Rk) Aa (uJ ⟨_,Z1.at_⟩ (let ⟨o,e,_⟩:=qE Yc;⟨o,e⟩)) (λ b m=>nomatch m) (λ b m=>nomatch m)
  ⟨⟨dW.st le ao ao (λ b m o e=>Aa b o (λ q=>by
    rw [bj m] at q;rcases cF q with q|q
    ·exact Ly q.symm
    ·exact Rl (bj q).symm) e) XI,⟨IZ,Z1,I0⟩,Within.cons _ _ IX⟩,(aby abA _).st le ao ao (λ b m o e=>Aa b o (λ q=>by
    rw [bj m] at q;rcases cF q with q|q
    ·exact Rf q
    ·exact U0 (bj q).symm) e) Z7⟩
  (λ b m=>.inl m)
 show wpAny (model XX w) A' (execs _ aa) _ _ _;refine dO f (P:=lit (.ref fA)) af λ v dT f sD=>?_;rw [show v= .ref fA from sD];have old:∀b,az.heap.get? b=none->b∉aw:=λ b e m=>by refine aM (fr b m) λ o q=>?_;rw [e] at q;cases q
 have sub:=f.sub;have ud:∀b∈(aaE fA rC abA (D4 pm cd ct) (GP cl D5 D6 D7) (IV c8 abA) ["allowance","applies_to"]).fp,b≠317->b∉aw:=λ b m n=>by
  rcases (f.aar b m).2.2.2 with q|q
  ·exact absurd (bj q) n
  ·exact old b q
 have Ab:∀b o,b∉aw->dT.heap.get? b=some o->(hide aw dT.heap).get? b=some o:=λ b o n e=>by rw [bI,if_neg n];exact e
 refine hQ _ _ ⟨f.aaH,dW.st (cT sub) ao ao (λ ξ ξ ξ e=>e) f.jp.1.1,?_⟩;refine cO f.jp.1.2 λ fN ξ=>?_;refine aK fN λ OJ FE Ea=>?_;refine cO f.jp.2 λ XE ZK=>?_;have U1:dT.heap.Ns1 rC (IV c8 abA):=by
  rcases FE.dict with ⟨q',_⟩|⟨_,q',_,GO⟩
  ·rw [Ea] at q';cases q'
  ·rw [Ea] at q';cases q';exact GO
 obtain ⟨c1,t1,Lz,U2⟩:∃c1 t1,aa.cells.lookup ("path":Str)=some c1/\dT.heap.IsCell c1 (some (.str (dX fi).s t1)):=by have y:=f.cx.vars "path" _ abl;unfold et at y;rw [f.cx.kindOf] at y;refine bU y λ c v a b d=>?_;refine aM (bz.mp d) λ t gj=>?_;subst gj;exact d8 c t a b
 obtain ⟨c2,t2,GQ,U3⟩:∃c2 t2,aa.cells.lookup ("size":Str)=some c2/\dT.heap.IsCell c2 (some (.int (dX fi).cs.length t2)):=by have y:=f.cx.vars "size" _ abl;unfold et at y;rw [f.cx.kindOf] at y;refine bU y λ c v a b d=>?_;refine aM (bD.mp d) λ t l6=>?_;subst l6;exact d8 c t a b
 have U4:c1∉aw:=old c1 (f.gb "path" abd c1 Lz);have U5:c2∉aw:=old c2 (f.gb "size" abd c2 GQ);refine cV ⟨fA,OJ,D4 pm cd ct,rC,IV c8 abA,abA,cl,D5,D6,D7,c1,c2,t1,t2⟩ rfl ?_;exact {
  f_:=Ab _ _ (ud fA (bL _ (bC _ (by simp [BB]))) Ly) FE.at_
  cls:=FE.cls
  data:=FE.data
  dict:=Ea
  ns:=by refine cY U1.ns λ o es ep e r=>?_;exact rZ o es ep (Ab _ _ (ud rC (bL _ (bC _ (by simp [BB]))) Rl) e) r
  ap:=by rfl
  al:=by rfl
  g_:=Ab _ _ (ud abA (bC _ di) (λ q=>by refine aK f.jp.1.1 λ ps e ξ=>?_;rw [q,e] at XE;cases XE)) XE
  co:=ZK.keeps (cT sub)
  l1:=by rw [Rd];exact Lz
  l2:=by rw [Rd];exact GQ
  OF:=by refine aK U2 λ o e r=>?_;exact cV o (Ab _ _ U4 e) r
  OG:=by refine aK U3 λ o e r=>?_;exact ⟨o,Ab _ _ U5 e,r⟩}
def clip (a n:Nat):(if (1:Int)>0 then max 0 (min (if (a:Int)<0 then (a:Int)+n else a) n) else max (-1) (min (if (a:Int)<0 then (a:Int)+n else a) (n - 1)))=((min a n:Nat):Int):=by rw [if_pos bH,if_neg (Int.not_lt.mpr (Int.natCast_nonneg a))];w_up
def I1 (n:Nat):(if (1:Int)>0 then (0:Int) else n - 1)=((min 0 n:Nat):Int):=by rw [if_pos bH];w_up
def I2 (n:Nat):(if (1:Int)>0 then (n:Int) else -1)=((min n n:Nat):Int):=by rw [if_pos bH];w_up
def BC (x y:Nat):PySem.sliceRange (x:Int) (y:Int) 1=(List.range (y - x)).map (λ k=>x+k):=by
 have c:(if (1:Int)>0 then (if (x:Int)<y then ((y:Int) - x+1 - 1) / 1 else 0) else (if (x:Int)>y then ((x:Int) - y - 1 - 1) / (-1) else 0)).toNat=y - x:=by
  rw [if_pos bH];by_cases h:(x:Int)<y
  ·rw [if_pos h];w_up
  ·rw [if_neg h];w_up
 show (List.range (if (1:Int)>0 then (if (x:Int)<y then ((y:Int) - x+1 - 1) / 1 else 0) else (if (x:Int)>y then ((x:Int) - y - 1 - 1) / (-1) else 0)).toNat).map (λ k:Nat=>((x:Int)+1*(k:Int)).toNat)=_;rw [c];exact List.map_congr_left λ k ξ=>by w_up
open PySem.Builtin.Str in
def wx {l u:Option Int} {x y:Nat} {p q:Int} (e:strSliceIndices l u 1 n=PySem.sliceRange p q 1) (hp:p=((x:Nat):Int)) (hq:q=((y:Nat):Int)):strSliceIndices l u 1 n=(List.range (y - x)).map (λ k=>x+k):=by rw [e,hp,hq,BC]
open PySem.Builtin.Str in
def I3 (a b n:Nat):strSliceIndices (some (a:Int)) (some (b:Int)) 1 n=(List.range (min b n - min a n)).map (λ k=>min a n+k):=wx rfl (clip a n) (clip b n)
open PySem.Builtin.Str in
def LA (b n:Nat):strSliceIndices none (some (b:Int)) 1 n=(List.range (min b n - min 0 n)).map (λ k=>min 0 n+k):=wx rfl (I1 n) (clip b n)
open PySem.Builtin.Str in
def GR (a n:Nat):strSliceIndices (some (a:Int)) none 1 n=(List.range (min n n - min a n)).map (λ k=>min a n+k):=wx rfl (clip a n) (I2 n)
def GS (l:List Char) (a m:Nat) (h:a+m<=l.length):((List.range m).map (λ k=>a+k)).filterMap (l[·]?)=(l.drop a).take m:=by
 induction m with
 |zero=>simp
 |succ m ih=>
  have c4:a+m<l.length:=by w_up
  rw [List.range_succ,List.map_append,List.filterMap_append,ih (by w_up),List.take_add_one,List.getElem?_drop];simp [List.getElem?_eq_getElem c4]
def rD {x:Tx} {l u:Option Int} {a b:Nat} (h:PySem.Builtin.Str.strSliceIndices l u 1 x.cs.length=(List.range (min b x.cs.length - min a x.cs.length)).map (λ k=>min a x.cs.length+k)):
  wm x l u=⟨(x.cs.drop (min a x.cs.length)).take (min b x.cs.length - min a x.cs.length)⟩/\((PySem.Builtin.Str.strSliceIndices l u 1 x.cs.length).length=x.cs.length->(⟨(x.cs.drop (min a x.cs.length)).take (min b x.cs.length - min a x.cs.length)⟩:Tx)=x):=by
 constructor
 ·unfold wm;rw [h];by_cases q:min a x.cs.length<=min b x.cs.length
  ·rw [GS _ _ _ (by rw [Nat.add_sub_cancel' q];exact Nat.min_le_right ..)]
  ·have:min b x.cs.length - min a x.cs.length=0:=Nat.sub_eq_zero_of_le (Nat.le_of_lt (Nat.lt_of_not_le q));rw [this];simp
 ·rw [h,lm,List.length_range];intro e;by_cases q:x.cs.length=0
  ·have:x.cs=[]:=List.length_eq_zero_iff.mp q;exact Tx.ext (by rw [this];simp)
  ·have h2:min b x.cs.length=x.cs.length:=Nat.le_antisymm (Nat.min_le_right ..) (Nat.le_trans (Nat.le_of_eq e.symm) (Nat.sub_le ..));have h1:min a x.cs.length=0:=Nat.eq_zero_of_not_pos λ p=>Nat.ne_of_lt (Nat.sub_lt (Nat.pos_of_ne_zero q) p) (by rw [h2] at e;exact e);exact Tx.ext (by rw [h1,h2];simp)
noncomputable def Tx.take (x:Tx) (k:Nat):Tx:=⟨x.cs.take k⟩
noncomputable def Tx.drop (x:Tx) (k:Nat):Tx:=⟨x.cs.drop k⟩
def pZ {x:Tx} (hz:x.cs.length<=sizeLine):fm A getItem (is x) (ef none (some (k:Int)) none) (is (x.take k)):=by
 have e:(⟨(x.cs.drop (min 0 x.cs.length)).take (min k x.cs.length - min 0 x.cs.length)⟩:Tx)=x.take k:=Tx.ext (by
  show _=x.cs.take k;rw [Nat.zero_min,List.drop_zero,Nat.sub_zero];by_cases q:k<=x.cs.length
  ·rw [Nat.min_eq_left q]
  ·rw [Nat.min_eq_right (Nat.le_of_lt (Nat.lt_of_not_le q)),List.take_length,List.take_of_length_le (Nat.le_of_lt (Nat.lt_of_not_le q))])
 have:=rD (LA k x.cs.length);rw [e] at this;exact oD this.1 this.2 (by show (x.cs.take k).length<=_;rw [List.length_take];exact Nat.le_trans (Nat.min_le_right ..) hz)
def ue {x:Tx} (hz:x.cs.length<=sizeLine):fm A getItem (is x) (ef (some (k:Int)) none none) (is (x.drop k)):=by
 have e:(⟨(x.cs.drop (min k x.cs.length)).take (min x.cs.length x.cs.length - min k x.cs.length)⟩:Tx)=x.drop k:=Tx.ext (by
  show _=x.cs.drop k;rw [Nat.min_self];by_cases q:k<=x.cs.length
  ·rw [Nat.min_eq_left q,List.take_of_length_le (by rw [List.length_drop];exact Nat.le_refl _)]
  ·rw [Nat.min_eq_right (Nat.le_of_lt (Nat.lt_of_not_le q)),List.drop_of_length_le (Nat.le_refl _),List.drop_of_length_le (Nat.le_of_lt (Nat.lt_of_not_le q))];simp)
 have:=rD (GR k x.cs.length);rw [e] at this;exact oD this.1 this.2 (by show (x.cs.drop k).length<=_;rw [List.length_drop];exact Nat.le_trans (Nat.sub_le ..) hz)
def Eb {x:Tx} {a b:Nat} (hz:x.cs.length<=sizeLine) (LB:a<=b):fm A getItem (is x) (ef (some (a:Int)) (some (b:Int)) none) (is ((x.drop a).take (b - a))):=by
 have e:(⟨(x.cs.drop (min a x.cs.length)).take (min b x.cs.length - min a x.cs.length)⟩:Tx)=(x.drop a).take (b - a):=Tx.ext (by
  show _=(x.cs.drop a).take (b - a);by_cases q:a<=x.cs.length
  ·rw [Nat.min_eq_left q];by_cases q':b<=x.cs.length
   ·rw [Nat.min_eq_left q']
   ·rw [Nat.min_eq_right (Nat.le_of_lt (Nat.lt_of_not_le q')),List.take_of_length_le (by rw [List.length_drop];exact Nat.le_refl _),List.take_of_length_le (by rw [List.length_drop];exact Nat.sub_le_sub_right (Nat.le_of_lt (Nat.lt_of_not_le q')) a)]
  ·have ha:min a x.cs.length=x.cs.length:=Nat.min_eq_right (Nat.le_of_lt (Nat.lt_of_not_le q));show (x.cs.drop (min a x.cs.length)).take _=_;rw [ha,List.drop_of_length_le (Nat.le_refl _),List.drop_of_length_le (Nat.le_of_lt (Nat.lt_of_not_le q))];simp)
 have:=rD (I3 a b x.cs.length);rw [e] at this;exact oD this.1 this.2 (by show ((x.cs.drop a).take (b - a)).length<=_;rw [List.length_take,List.length_drop];exact Nat.le_trans (Nat.min_le_right ..) (Nat.le_trans (Nat.sub_le ..) hz))
def ya {t:List Char} (abx:cy 2 A) (ht:t.length<=100000) (hc:(t.take 1==['/'])=false):fJ A (.ref 284) [is (Tx.mk ('/'::t))] (is (X7.mk (Tx.mk []) aF (Tx.mk t))):=by
 have hl:=br;have hx:(Tx.mk ('/'::t)).cs.length<=sizeLine:=by rw [hl];show t.length+1<=_;w_up
 refine ju (n:=1) (ρ:=[("p",is (Tx.mk ('/'::t)))]) (o:=M3) abl rfl aaT ⟨283,M2,_,_,rfl,by rfl,rfl,rfl⟩ abx (mY λ v=>by rfl) ["p"] rfl abd abd ?_;intro aw az aa S s' A' aY f;refine aU f (P:=is (Tx.mk ('/'::t))) (ba (f:=.ref 256) (YN:=[is (Tx.mk ('/'::t))]) cI (au af aB) aR ⟨_,_,by rfl,rfl⟩ (kn aY)) abd aR λ aj f=>?_;refine f6 f (b:=false) ?_ nD λ ξ aA f=>?_
 ·refine cM ?_ gk aR;exact ba (f:=.builtin "isinstance") (YN:=[is (Tx.mk ('/'::t)),lit (.type "bytes")]) aQ (au af (au aQ aB)) aR trivial iN
 refine aU f (P:=is aF) (cD _ abl) abd aR λ aH f=>?_;refine aU f (P:=is (Tx.mk [])) (cD _ abl) abd aR λ bS f=>?_;refine bf (f6 f (b:=false) ?_ nD λ ξ bY f=>?_)
 ·refine bg (aV:=is aF) (a6:=is aF) (cP (aV:=is (Tx.mk ('/'::t))) (a6:=ef none (some ((1:Nat):Int)) none) af (fq cR (eN bX) cR) (pZ hx) rk PySem.F.slot_str_getitem.lookup) af ?_ rfl;have:=iF (A:=A') (a:=aF) (b:=aF) aY bH;simpa using this
 refine f6 f (b:=true) ?_ (λ ξ dK f=>?_) xR
 ·have h1:((Tx.mk ('/'::t)).drop 1).take (2 - 1)=Tx.mk (t.take 1):=rfl;have h2:(!decide (((Tx.mk ('/'::t)).drop 1).take (2 - 1)=aF))=true:=by
   rw [h1];have:t.take 1≠['/']:=by simpa using hc
   rw [decide_eq_false λ e:Tx.mk (t.take 1)=aF=>this (congrArg Tx.cs e)];rfl
  refine fo (b:=true) ?_;rw [<-Bool.true_or false];refine iL ?_ xR;refine bg (aV:=is (((Tx.mk ('/'::t)).drop 1).take (2 - 1))) (a6:=is aF) (cP (aV:=is (Tx.mk ('/'::t))) (a6:=ef (some ((1:Nat):Int)) (some ((2:Nat):Int)) none) af (fq (eN bX) (eN bX) cR) (Eb hx (by w_up)) rk PySem.F.slot_str_getitem.lookup) af ?_ rfl;have:=iF (A:=A') (a:=((Tx.mk ('/'::t)).drop 1).take (2 - 1)) (b:=aF) aY bH;rwa [h2] at this
 ·refine dO f (P:=is (X7.mk (Tx.mk []) aF (Tx.mk t))) (HY (au af (au af (au (cP (aV:=is (Tx.mk ('/'::t))) (a6:=ef (some ((1:Nat):Int)) none none) af (fq (eN bX) cR cR) (ue hx) rk PySem.F.slot_str_getitem.lookup) aB)))) λ v aH f' p=>f'.gc (F:=[]) p
def Ec {R:Result->Shared->Prop} (h:wpAny (model XX w) (A.deeper aa) (eval e aa) (λ v s'=>R (.ok (.ret v)) s') dj s):codeAny (model XX w) A (.expr e aa) R s:=by refine codeAny_of_tree ?_;show wpAny _ (A.deeper aa) (do point;ret (<-(eval e aa).onRaise (leaving aa))) _ _ s;exact Z4 (wpAny_point (Z4 (wpAny_onRaise (Zh h (λ v s' h'=>X5 h') λ ξ ξ h'=>h'.elim))))
def GU {aE:Args} {o:Obj} {bM:Expr} {R:Result->Shared->Prop} (OK:A.depth<recursionLimit) (ho:s.heap.get? a=some o)
  (lS:o.data= .func fd) (Ls:fd.scope.isCoroutine=false) (Rm:fd.scope.isGenerator=false) (OL:fd.body= .expr bM) (HT:s.heap.CodeRec fd.code fd.qualname)
  (h:wpAny (model XX w) A.in1 (bindArgs fd aE) (λ c5 aj=>
   wpAny (model XX w) A.in1 (newFunctionEnv fd.scope fd.globals fd.closure c5 (fd.qualname++".<locals>.") (some a) fd.code none fd.builtins)
    (λ aa aA=>aA.heap.NoLimit/\codeAny (model XX w) A (.expr bM aa) R aA) (λ e s'=>R (.error e) s') aj) (λ e s'=>R (.error e) s') s):
  codeAny (model XX w) A (.call (.ref a) aE) R s:=by
 refine codeAny_of_tree ?_;show wpAny _ A.in1 (callAny (.ref a) aE) _ _ s;unfold callAny;refine Z4 (wpAny_load ho ?_);obtain ⟨c,oc,vs,aac,hc,U6,U7,hq⟩:=HT;rw [lS];show wpAny _ _ (callFunction a fd aE) _ _ _;unfold callFunction;rw [Ls,Rm,OL,hc];rw [hc] at h;refine Z4 (m:=field (.ref c) 1) (wpAny_field U6 U7 hq (Z4 (X5 ?_)));exact Z4 (Zh h (λ c5 aj dg=>Z4 (Zh dg (λ aa aA dJ=>Z4 (wpAny_enterFrame dJ.1 OK
  (X5 (And.intro rfl dJ.2)))) λ ξ ξ h'=>h')) λ ξ ξ h'=>h')
def i6 (cQ x:Tx):Int:=if x.take cQ.cs.length=cQ then (cQ.cs.length:Int)+1 else 0
def BD {x:Tx} {c8:Bool} {d:XQ}
  (L:sC (hide S s.heap) cQ c8 d) (T:er (hide S s.heap)) (fr:∀b∈S,∃o,s.heap.get? b=some o) (abx:cy 1 A) (hx:x.cs.length<=10000) (pv:(is x).p (hide S s.heap) v):
  wpAny (model XX w) A (call (.ref d.g) [v] []) (End S (is (i6 cQ x)) s) dj s:=by
 have hl:=br;refine aM (bz.mp pv) λ t c7=>?_;subst c7;refine wpAny_call (GU (bM:=yQ ln2) (by have:=abx.depth;show A.depth<1000;w_up) (ao _ _ L.g_) rfl rfl rfl rfl (L.co.keeps ao) ?_);show wpAny _ _ (pure [(("name":Str),Value.str x.s t)]) _ _ _;refine X5 (wpAny_newFunctionEnv (λ x hx=>?_) (λ x hx=>?_) (λ dg nj Rn=>?_) rfl)
 ·have:x∈[(("name":Str),NameKind.local),("path",NameKind.free),("size",NameKind.free)]:=hx;rcases cF this with rfl|this
  ·decide
  ·rcases cF this with rfl|this
   ·decide
   ·rw [bj this];decide
 ·rw [bj hx];show List.lookup ("name":Str) (q1 ln2).names=some .local;decide+kernel
 refine qB T.t λ Nu Nv Nx mg mb Ij ξ=>?_;have Ik:s.heap.NoLimit:=(topRead_of Ij).nolimit.keeps ao;have k₁:XN s.heap dg:=λ b o e=>Rn.extBut b o (Nat.ne_of_lt (Heap.lt_size e)) (cN _ e);refine ⟨Ik.fresh _ Rn,?_⟩;show codeAny _ _ (.expr (yQ ln2) (newEnv (q1 ln2) s.heap.objs.size mainGlobals d.cl (pV++".<locals>.") (some d.g) d.cd none builtinsNs)) _ _;generalize he:newEnv (q1 ln2) s.heap.objs.size mainGlobals d.cl (pV++".<locals>.") (some d.g) d.cd none builtinsNs=I4;have hn:s.heap.get? s.heap.objs.size=none:=get_none (Nat.le_refl _);have grow:XN (hide S s.heap) (hide (s.heap.objs.size::S) dg):=dH k₁ λ b hb=>by
  rcases cF hb with rfl|hb
  ·exact .inr hn
  ·exact .inl hb
 have cx:XK (q1 ln2).names [("name",is x),("path",is cQ),("size",is (cQ.cs.length:Int))] (s.heap.objs.size::S) I4 dg:=by
  subst he;refine ⟨rfl,rfl,rfl,rfl,λ n P e=>?_,λ b hb=>?_,T.mono grow⟩
  ·rw [List.lookup_cons] at e;by_cases abe:n="name"
   ·subst abe;rw [beq_self_eq_true] at e;cases e;unfold et;show ∃m v,_;exact bW _ (Value.str x.s t) nj abl (bz.mpr ⟨_,rfl⟩)
   ·rw [beq_eq_false_iff_ne.mpr abe] at e;replace e:List.lookup n [(("path":Str),is cQ),("size",is (cQ.cs.length:Int))]=some P:=e;rw [List.lookup_cons] at e;by_cases aaL:n="path"
    ·subst aaL;rw [beq_self_eq_true] at e;cases e;unfold et;exact bW d.c1 _ L.l1 ((L.OF.keeps ao).keeps k₁) (bz.mpr ⟨_,rfl⟩)
    ·rw [beq_eq_false_iff_ne.mpr aaL] at e;replace e:List.lookup n [(("size":Str),is (cQ.cs.length:Int))]=some P:=e;rw [List.lookup_cons] at e;by_cases Yc:n="size"
     ·subst Yc;rw [beq_self_eq_true] at e;cases e;unfold et;exact bW d.c2 _ L.l2 ((L.OG.keeps ao).keeps k₁) (bD.mpr ⟨_,rfl⟩)
     ·rw [beq_eq_false_iff_ne.mpr Yc] at e;cases e
  ·rcases cF hb with rfl|hb
   ·refine cY nj λ o ξ ξ e ξ=>?_;exact ⟨o,e⟩
   ·refine aM (fr b hb) λ o e=>?_;exact ⟨o,k₁ _ _ e⟩
 have aY:=abx.deeper I4;refine Ec ?_;have ev:Ev (A.deeper I4) (q1 ln2).names [("name",is x),("path",is cQ),("size",is (cQ.cs.length:Int))] (yQ ln2) (is (i6 cQ x)):=by
  refine tf (b:=decide (x.take cQ.cs.length=cQ)) (bg (aV:=is (x.take cQ.cs.length)) (a6:=is cQ) (cP (aV:=is x) (a6:=ef none (some (cQ.cs.length:Int)) none) af (fq cR (eN af) cR) (pZ (by w_up)) rk PySem.F.slot_str_getitem.lookup) af (iE aY bH) abl) (λ hb=>?_) (λ hb=>?_)
  ·have:i6 cQ x=(cQ.cs.length:Int)+1:=if_pos (by simpa using hb);rw [this];exact c6 af bX pD
  ·have:i6 cQ x=0:=if_neg (by simpa using hb);rw [this];exact bX
 refine Zh (ev _ _ {s with heap:=dg,toks:=s.toks+1} cx) (λ v s' q=>?_) dp;refine ⟨?_,(is (i6 cQ x)).mono (cT λ b hb=>Ym _ hb) q.2⟩;refine bu q.1 λ hh tt e kk=>?_;exact d8 hh tt e (λ b o z=>kk b o (k₁ b o z))
def GV:(Manifest.canonical "object.__getattribute__"!="object.__getattribute__")=false:=by decide+kernel
def BE {x:Tx} {c8:Bool} (abx:cy 1 A) (hx:x.cs.length<=10000) (hz:Ev A sc ρ (.Name z YA) (rB cQ c8)) (ha:Ev A sc ρ aS (is x)) (hp:eT [aS])
  (mw:∀aa,starEach [aS] aa=(false,eval aS aa)::starEach [] aa)
  (he:∀aa,∃pl:Sem Bool,eval (.Call (.Attribute (.Name z YA) "applies_to" bE) [aS] [] ar) aa=(do
   let ov<-eval (.Name z YA) aa
   standAt bE.atName
   let (f,first)<-holding [ov] (getMethod ov "applies_to" pl)
   callWith ar f first (backTo ar (starEach [aS] aa)) [])):Ev A sc ρ (.Call (.Attribute (.Name z YA) "applies_to" bE) [aS] [] ar) (is (i6 cQ x)):=λ S aa s c=>by
 refine aM (he aa) λ pl e=>?_;rw [e];refine Z4 (hz.use c λ v aj k₁ c₁ aZ=>?_);refine aK aZ λ d ev L=>?_;subst ev;have uI:aj.TypeIs (.ref d.f) "function":=⟨_,ao _ _ L.f_,L.cls⟩;refine Z4 (ig (Z4 (XG ?_)));unfold getMethod;refine Z4 (wpAny_specialOf (T:="function") uI DR ?_);show wpAny (model XX w) A (if (Manifest.canonical "object.__getattribute__"!="object.__getattribute__")=true then _ else _) _ _ aj;rw [GV,if_neg Bool.false_ne_true];refine Z4 (wpAny_specialOf (T:="function") uI IG ?_);refine Z4 (wpAny_specialOf (T:="function") uI z4 ?_);refine Z4 (fn_get (ao _ _ L.f_) L.cls L.data L.dict (L.ns.keeps ao) L.ap z4 rfl (X5 ?_));have k₂:Keeps aj {aj with toks:=aj.toks+1}:=dG _ _;refine eg (hp aa ar) ?_;refine j7 (he:=mw aa) (ha.use (s:={aj with toks:=aj.toks+1}) c₁ λ u aA iq c₂ cG=>wpAny_items_nil ?_);have NF:=L.mono (aJ (S:=S) (kle iq));refine ⟨⟨_,_,ao _ _ NF.g_,rfl⟩,?_⟩;exact Zh (BD NF c₂.top c₂.b4 abx hx cG) (λ v s' q=>⟨aL (aL k₁ (aL k₂ iq)) q.1,q.2⟩) dp
def q2 {c8:Bool} (hz:Ev A sc ρ (.Name z YA) (rB cQ c8)):Ev A sc ρ (.Attribute (.Name z YA) "allowance" ar) (is c8):=λ S aa s c=>
 Attribute_name (hz.use c λ v aj k₁ c₁ aZ=>by refine aK aZ λ d ev L=>?_;subst ev;exact fn_get (ao _ _ L.f_) L.cls L.data L.dict (L.ns.keeps ao) L.al Fx rfl ⟨aL k₁ (dG _ _),is_bool.mpr rfl⟩)
section
open Builtin Builtin.ObjectAttr
def BF {o:Obj} (x:h.Ns a m) (e:h.get? a=some o) (name:Str):lookIn name o=some (m name):=by
 refine lZ x λ o' es ep e' d sk f=>?_;rw [e] at e';cases e';unfold lookIn;rw [d];dsimp only;have hf:=f name;unfold nsFind findBy at hf;rw [<-Array.find?_toList] at hf;cases q:es.toList.find? (λ e=>e.key.isStr name) with
 |some en=>
  rw [q] at hf;dsimp only;rw [<-hf];rfl
 |none=>
  rw [q] at hf;dsimp only;have:es.toList.any (·.refKey)=false:=by rw [List.any_eq_false];intro en jB;refine cS (sk en (by simpa using jB)) λ n t k=>?_;unfold DictEntry.refKey;rw [k];simp
  rw [this,if_neg Bool.false_ne_true,<-hf];rfl
structure jC (h:Heap) (C x dx:Addr) (m:Str->Option Value):Prop where
 at_:h.get? x=some (instObj C dx)
 ns:h.Ns1 dx m
 ne:x≠dx
def jC.keeps {x:Addr} (I:jC h C x dx m) (k:∀b o,b=x\/b=dx->h.get? b=some o->h'.get? b=some o):jC h' C x dx m:=
 ⟨k _ _ (.inl rfl) I.at_,I.ns.at λ o e=>k _ _ (.inr rfl) e,I.ne⟩
def jC.uZ {x:Addr} (I:jC h C x dx m):∃od,h.get? dx=some od/\PySem.W.InstAt h x (instObj C dx) C (some od)/\∀name,lookIn name od=some (m name):=by have n:=I.ns.ns;refine cY (id n) λ od ξ ξ e ξ=>?_;exact eX od e ⟨I.at_,rfl,rfl,e⟩ (λ name=>BF n e name)
structure kJ (C:Addr):Prop where
 ga:findIn (KK w.params) (.ref C) "__getattribute__"=some (some (.builtin "object.__getattribute__"))
 qW:findIn (KK w.params) (.ref C) "__getattr__"=some none
 sa:findIn (KK w.params) (.ref C) "__setattr__"=some (some (.builtin "object.__setattr__"))
 over:plainOver (KK w.params) C=true
 hd:hasDictIn (KK w.params) C=true
section
variable {x:Addr}
def ko {attr:Option Value} {Q:Value->Shared->Prop} (aaf:kJ C) (X:(KK w.params).In s.heap) (I:jC s.heap C x dx m) (ha:findIn (KK w.params) (.ref C) name=some attr) (hn:noGet (KK w.params) attr=true) (hv:m name=some v) (hh:handedIn v=true)
  (q:Q v {s with toks:=s.toks+1}):wpAny (model XX w) A (getAttr (.ref x) name expr) Q E s:=by
 refine cZ I.uZ λ od e aa3 lk=>?_;exact get_value X aa3 aaf.ga (findObj_own aaf.hd ha hn (by rw [lk,hv])) hh q
def wy {pl:Sem Bool} {Q:Value×List Value->Shared->Prop} (aaf:kJ C) (X:(KK w.params).In s.heap) (I:jC s.heap C x dx m) (hf:findIn (KK w.params) (.ref C) name=some (some (.ref f))) (ht:typeIn (KK w.params) (.ref f)=some (.type "function")) (hm:m name=none)
  (q:Q (.ref f,[.ref x]) s):wpAny (model XX w) A (getMethod (.ref x) name pl) Q E s:=by
 refine cZ I.uZ λ od e aa3 lk=>?_;exact method_fn X aa3 aaf.ga aaf.qW hf ht (by show (lookIn name od).map (·.isSome)=some false;rw [lk,hm];rfl) q
def qF {Q:Unit->Shared->Prop} (aaf:kJ C) (X:(KK w.params).In s.heap) (I:jC s.heap C x dx m) (ht:takerIn (KK w.params) C name=some none) (hw:Within m ns) (hz:ns.length<=100)
  (q:∀h' tk,jC h' C x dx (λ y=>if y=name then some v else m y)->Heap.SameBut dx s.heap h'->Q () {s with heap:=h',toks:=tk}):wpAny (model XX w) A (setAttr (.ref x) name v) Q E s:=by
 refine cZ I.uZ λ od e aa3 lk=>?_;refine set_plain X aa3 aaf.sa (osa_open (s:={s with toks:=s.toks+1}) X aa3 aaf.over ht λ b=>?_);refine aK (any_some aaf.hd) λ cd hc lS=>?_;show wpAny _ _ (storeInOwnDict (.ref x) (.ref C) (.str name s.toks) name v b) _ _ _;unfold storeInOwnDict;have e1:ownStreamTells (.ref x) (.ref C)=pure ():=rfl;rw [e1];refine Z4 (X5 ?_);rw [if_neg (by simp)];refine Z4 ?_;unfold ownDictForStores instanceDict;refine Z4 (wpAny_loadPart I.at_ ?_);dsimp only;refine Z4 ((looks_clsIn (M:=model XX w) X hc) _ _ _ _ (λ ξ ξ e=>e) ?_);rw [lS,if_neg (by simp)];refine X5 ?_;show wpAny _ _ (storeInDict dx (.str name s.toks) name v) _ _ _;unfold storeInDict newKeyGuard;refine Z4 (X5 (Z4 (wpAny_nsSet1 I.ns λ h' jz hs=>?_)));refine bw (jz.count (Within.cons name v hw)) λ Z6 Q9 Ra IK IL IM=>?_;refine Z4 (wpAny_lookBehind IK (by rw [IL];exact pastItsLine_dict (Nat.le_trans IM (by rw [List.length_cons,sizeLine_eq];w_up))) ?_);refine X5 ?_;exact q h' _ ⟨(hs.2 x I.ne).trans I.at_,jz,I.ne⟩ hs
end
def wz:kJ 59:=⟨by rfl,by rfl,by rfl,by rfl,by rfl⟩
def jV:kJ 179:=⟨by rfl,by rfl,by rfl,by rfl,by rfl⟩
def Ro:makesIn (KK w.params) 59=true:=by rfl
def OM:makesIn (KK w.params) 179=true:=by rfl
def Rp:makesIn (KK w.params) 82=true:=by rfl
end
noncomputable def upd (m:Str->Option Value) (name:Str) (v:Value):Str->Option Value:=λ y=>if y=name then some v else m y
noncomputable def fu (C x dx:Addr) (m:Str->Option Value) (ns:List Str):XW:=⟨[x,dx],λ ξ h=>jC h C x dx m/\Within m ns,λ ξ ξ ξ k ⟨a,b⟩=>⟨a.keeps λ c o q e=>k c (by rcases q with rfl|rfl<;>simp) o e,b⟩⟩
section
variable {x:Addr}
def YQ.NG {Rq NH:Heap->Heap->Prop} (f:YQ sc ak F aw az aa ρ J S s) (L:jU J jT D Rq NH) (hs:Heap.SameBut D s.heap h') (hl:∃o,h'.get? D=some o) (hc:NH (hide S h') h'):YQ sc ak F aw az aa ρ jT S {s with heap:=h',toks:=tk}:=by have e9:=(f.aar D L.mem).1;have dS:XN (hide S s.heap) (hide S h'):=b5 λ b o nb e=>(hs.2 b λ q=>nb (q▸e9)).trans e;exact f.mut (aa_:=jT) L.mem hs hl (L.set dS ao ao (λ b o nb e=>(hs.2 b nb).trans e) f.jp hc) L.fp
def tL (aaf:kJ C) (f:YQ sc ak F aw az aa ρ J S s) (ht:takerIn (KK w.params) C name=some none) (hz:ns.length<=100)
  (L:jU J jT dx (fu C x dx m ns).p (fu C x dx (upd m name v) (name::ns)).p) (k:∀s',Keeps s s'\/True->XN (hide S s.heap) (hide S s'.heap)->YQ sc ak F aw az aa ρ jT S s'->XF () s'):
  wpAny (model XX w) A (setAttr (.ref x) name v) XF E s:=by
 refine cO (L.get f.jp) λ I Xz=>?_;refine qF aaf (f.cx.top.k.keeps ao) I ht Xz hz λ h' tk I' hs=>?_;have e9:=(f.aar dx L.mem).1;have dS:XN (hide S s.heap) (hide S h'):=b5 λ b o nb e=>(hs.2 b λ q=>nb (q▸e9)).trans e;exact k _ (.inr trivial) dS (f.NG L hs (by refine cY I'.ns λ o ξ ξ e ξ=>?_;exact ⟨o,e⟩) ⟨I',Within.cons _ _ Xz⟩)
def mz {aa_:Value->XW} (aaf:kJ C) (f:YQ sc ak F aw az aa ρ J S s) (hv:Ev A sc ρ aaB P) (Ac:Ev A sc ρ (.Name z YA) (lit (.ref x))) (ht:takerIn (KK w.params) C name=some none) (hz:ns.length<=100)
  (gP:∀aa:Env,aa.scope.kind= .function->aa.scope.names=sc->swapsWith aaB (some (.Attribute (.Name z YA) name ap)) ar.line aa=pure false)
  (L:∀v,jU J (aa_ v) dx (fu C x dx m ns).p (fu C x dx (upd m name v) (name::ns)).p)
  (k:∀v s',P.p (hide S s'.heap) v->YQ sc ak F aw az aa ρ (aa_ v) S s'->wpAny (model XX w) A (execs aD aa) Q E s'):wpAny (model XX w) A (execs (.Assign [.Attribute (.Name z YA) name ap] aaB ar::aD) aa) Q E s:=
 YF (plainObj_wpAny_Assign_Attribute (hs:=gP aa f.cx.kind f.cx.names) (hv.use f.cx λ v aj k₁ c₁ aZ=>Ac.use c₁ λ u aA k₂ c₂ cG=>by rw [show u= .ref x from cG];exact tL aaf (f.keep (aL k₁ k₂)) ht hz (L v) λ s' ξ le f'=>k v s' (P.mono le (P.mono (aJ (kle k₂)) aZ)) f'))
def o0 (aaf:kJ C) (f:YQ sc ak F aw az aa ρ J S s) (Ac:Ev A sc ρ (.Name z YA) (lit (.ref x))) (ht:takerIn (KK w.params) C name=some none) (hz:ns.length<=100) {aa_:Value->XW}
  (gP:∀aa:Env,aa.scope.kind= .function->aa.scope.names=sc->swapsWith (.List [] lp) (some (.Attribute (.Name z YA) name ap)) ar.line aa=pure false)
  (L:∀v,jU J (aa_ v) dx (fu C x dx m ns).p (fu C x dx (upd m name v) (name::ns)).p)
  (k:∀D s',D∉S->D∉J.fp->YQ sc ak F aw az aa ρ ((dc D []).and (aa_ (.ref D))) (D::S) s'->wpAny (model XX w) A (execs aD aa) Q E s'):wpAny (model XX w) A (execs (.Assign [.Attribute (.Name z YA) name ap] (.List [] lp) ar::aD) aa) Q E s:=by
 refine YF (plainObj_wpAny_Assign_Attribute (hs:=gP aa f.cx.kind f.cx.names) (wpAny_List (wpAny_items_nil ⟨Nat.zero_le _,?_⟩)));have hn:s.heap.get? s.heap.objs.size=none:=get_none (Nat.le_refl _);have iy:(s.heap.push {cls:=.type "list",data:=.seq ([]:List Value).toArray}).get? s.heap.objs.size=some {cls:=.type "list",data:=.seq ([]:List Value).toArray}:=Heap.get?_push_size _ rfl;have f':=f.lay (s':={s with heap:=s.heap.push {cls:=.type "list",data:=.seq ([]:List Value).toArray}}) (D:=s.heap.objs.size) (K:=dc s.heap.objs.size []) ⟨_,_,rfl,λ ξ ξ e=>cN _ e⟩ hn ⟨_,iy⟩ (λ b m=>bj m) ⟨_,_,iy,trivial⟩;have e9:s.heap.objs.size∉S:=eO f.cx.b4 (Nat.le_refl _);have pU:s.heap.objs.size∉J.fp:=λ m=>e9 (f.aar _ m).1;refine Ac.use f'.cx λ u aA k₂ c₂ cG=>?_;rw [show u= .ref x from cG];have fg:dx∉(dc s.heap.objs.size []).fp:=λ m=>pU (bj m▸(L .none).mem);exact tL aaf (f'.keep k₂) ht hz (g7 (L (.ref s.heap.objs.size)) fg) λ s' ξ le I5=>k _ s' e9 pU I5
def uK (aaf:kJ C) (f:YQ sc ak F aw az aa ρ J S s) (Ac:Ev A sc ρ (.Name z YA) (lit (.ref x))) (ht:takerIn (KK w.params) C name=some none) (hz:ns.length<=100) {aa_:Value->XW}
  (gP:∀aa:Env,aa.scope.kind= .function->aa.scope.names=sc->swapsWith (.Dict [] [] lp) (some (.Attribute (.Name z YA) name ap)) ar.line aa=pure false)
  (L:∀v,jU J (aa_ v) dx (fu C x dx m ns).p (fu C x dx (upd m name v) (name::ns)).p)
  (k:∀D s',D∉S->D∉J.fp->YQ sc ak F aw az aa ρ ((fW D []).and (aa_ (.ref D))) (D::S) s'->wpAny (model XX w) A (execs aD aa) Q E s'):wpAny (model XX w) A (execs (.Assign [.Attribute (.Name z YA) name ap] (.Dict [] [] lp) ar::aD) aa) Q E s:=by
 have o8:(s.heap.push {cls:=.type "dict",data:=.dict #[]}).DictOf (abh) s.heap.objs.size []:=Heap.DictOf.new s.heap;have jL:=r9 f.cx;refine YF (plainObj_wpAny_Assign_Attribute (hs:=gP aa f.cx.kind f.cx.names) (wpAny_Dict_empty ?_));have hn:s.heap.get? s.heap.objs.size=none:=get_none (Nat.le_refl _);have iy:(s.heap.push {cls:=.type "dict",data:=.dict #[]}).get? s.heap.objs.size=some {cls:=.type "dict",data:=.dict #[]}:=Heap.get?_push_size _ rfl;have f':=f.lay (s':={s with heap:=s.heap.push {cls:=.type "dict",data:=.dict #[]}}) (D:=s.heap.objs.size) (K:=fW s.heap.objs.size []) ⟨_,_,rfl,λ ξ ξ e=>cN _ e⟩ hn ⟨_,iy⟩ (λ b m=>bj m) ⟨jL,[],o8,rfl,trivial⟩;have e9:s.heap.objs.size∉S:=eO f.cx.b4 (Nat.le_refl _);have pU:s.heap.objs.size∉J.fp:=λ m=>e9 (f.aar _ m).1;refine Ac.use f'.cx λ u aA k₂ c₂ cG=>?_;rw [show u= .ref x from cG];have fg:dx∉(fW s.heap.objs.size []).fp:=λ m=>pU (bj m▸(L .none).mem);exact tL aaf (f'.keep k₂) ht hz (g7 (L (.ref s.heap.objs.size)) fg) λ s' ξ le I5=>k _ s' e9 pU I5
def i7 {m':Str->Option Value} {Rr:List Str} (hd:dx∉J.fp):jU ((fu C x dx m ns).and J) ((fu C x dx m' Rr).and J) dx (fu C x dx m ns).p (fu C x dx m' Rr).p where
 mem:=bL _ (by simp [fu])
 fp:=λ b h=>h
 get:=λ q=>q.1
 set:=λ l1 l2 Yi k q y=>⟨y,J.st l1 l2 Yi (λ b hb o e=>k b o (λ z=>hd (z▸hb)) e) q.2⟩
end
noncomputable def uf (x dx L:Addr) (YN:List YJ):XW:=⟨[x,dx,L],λ g h=>(∃m,jC h 59 x dx m/\m "rulelines"=some (.ref L)/\m "allowance"=none)/\∃vs n,IsL h L vs n/\AllP g YN vs.toList,
 λ le ξ ξ k ⟨⟨m,a,b⟩,vs,n,c,d⟩=>uX ⟨m,a.keeps λ c o q e=>k c (by rcases q with rfl|rfl<;>simp) o e,b⟩ vs n (k L (Ym _ (Ym _ di)) _ c) (d.mono le)⟩
noncomputable def i8 (YN:List YJ):YJ:=⟨λ h v=>∃x dx L,v= .ref x/\(uf x dx L YN).p h h,λ k ⟨x,dx,L,e,q⟩=>rZ x dx L e ((uf x dx L YN).st k (XN.refl _) (XN.refl _) (λ b ξ o e=>k b o e) q)⟩
noncomputable abbrev Ed (A:Around) (C:Addr) (aD:List Value) (kw:List (Str×Value)):Around:=A.under (.builtin "type.__call__" ⟨.ref C::aD,kw⟩)
def rE {aD:List Value} (x:cy (n+1) A):cy n (Ed A C aD kw) where
 handled:=x.handled
 depth:=by have:=x.depth;show A.depth+1+n<900;w_up
 units:=by have:=x.units;show A.units+1+10*n+300<cLine;w_up
 guards:=x.guards
 frames:=x.frames
def mC {a:Str} (h:∀v,bindArgs fd ⟨[v],[]⟩=pure [(a,v)]):kH fd [gZ] [(a,gZ)]:=pM λ s vs e=>by refine aM (List.length_eq_one_iff.mp e) λ v q=>?_;subst q;exact ⟨_,BindsTo.of_eq (h v),λ h p=>iJ rfl p.1 trivial⟩
def GW (abx:cy 2 A) (T:er (hide S s.heap)) (fr:∀b∈S,∃o,s.heap.get? b=some o):wpAny (model XX w) A (call (.ref 59) [] []) (λ v s'=>Keeps s s'/\∃x dx L,v= .ref x/\(∀b∈[x,dx,L],s.heap.get? b=none)/\L≠x/\L≠dx/\x≠dx/\(uf x dx L []).p (hide S s'.heap) s'.heap) dj s:=by
 obtain ⟨hh,aai,d,t,os⟩:=s;have X:(KK w.params).In hh:=T.k.keeps ao;refine wpAny_call (make_core (makes_of X Ro) (looks_findIn X (name:="__init__") (r:=some (.ref 35)) abl) (λ self=>bind_fn X self abl) (.inl rfl) ?_);dsimp only at T fr;generalize hx:hh.objs.size+1=x;generalize jQ:hh.objs.size=dx;have gp:hh.get? dx=none:=get_none (Nat.le_of_eq jQ);have n7:hh.get? x=none:=get_none (by rw [<-hx];exact Nat.le_succ _);have fg:x≠dx:=λ q=>by rw [<-hx,<-jQ] at q;exact Nat.succ_ne_self _ q
 generalize hH:(hh.push emptyDict).push (instObj 59 dx)=H;have k₁:XN hh H:=λ b o e=>by rw [<-hH];exact cN _ (cN _ e)
 have gd:H.get? dx=some emptyDict:=by rw [<-hH,<-jQ];exact cN _ (Heap.get?_push_size _ rfl)
 have Yy:H.get? x=some (instObj 59 dx):=by rw [<-hH,<-hx];have:=Heap.get?_push_size (hh.push emptyDict) (o:=instObj 59 dx) rfl;rwa [Heap.size_push] at this
 have fresh:∀b∈[x,dx]++S,b∈S\/hh.get? b=none:=λ b hb=>by
  rcases bR hb with m|m
  ·exact .inr (uJ (p:=λ b=>hh.get? b=none) n7 gp b m)
  ·exact .inl m
 have T':er (hide ([x,dx]++S) H):=T.mono (dH k₁ fresh);have Ef:∀b∈[x,dx]++S,∃o,H.get? b=some o:=λ b hb=>by
  rcases bR hb with m|m
  ·exact uJ (p:=λ b=>∃o,H.get? b=some o) ⟨_,Yy⟩ ⟨_,gd⟩ b m
  ·refine aM (fr b m) λ o e=>?_;exact ⟨o,k₁ _ _ e⟩
 have YC:jC H 59 x dx (λ ξ=>none):=⟨Yy,Heap.Ns1.of_empty ⟨_,#[],_,gd,rfl,λ e he=>absurd he (by simp),λ ξ=>rfl⟩,fg⟩;have I6:cy 1 (Ed A 59 [] []):=rE abx;refine kY (s:=⟨H,aai,d,t,os⟩) (ρ:=[("self",lit (.ref x))]) (J:=(fu 59 x dx (λ ξ=>none) []).and Y8) (F:=[x,dx]) (aw:=[x,dx]++S) (o:=QJ) T' Ef (by have:=I6.depth;show (Ed A 59 [] []).depth<1000;w_up) (ao _ _ (T'.k 35 _ abl)) rfl aaT ⟨34,QI,_,_,rfl,by rfl,rfl,rfl⟩ ["self"]
  (λ A Q E k=>mC (gZ:=lit (.ref x)) (λ a=>by rfl) ([x,dx]++S) ⟨H,aai,d,t,os⟩ [.ref x] A Q E Ef ⟨rfl,trivial⟩ λ b aj k₁ kZ=>k b aj k₁ (by rw [Zc.names kZ];rfl) kZ) abd abd ⟨⟨YC,Within.nil⟩,trivial⟩ (λ b m=>by have m:b∈[x,dx]:=m;exact ⟨bL _ m,m⟩) λ aa mD aA ξ ξ ξ f=>?_
 generalize Around.deeper _ aa=A' at*;refine Zh (E:=dj) ?_ dp eY;refine o0 wz (aa_:=λ v=>(fu 59 x dx (upd (λ ξ=>none) "useragents" v) ["useragents"]).and Y8) f af abl (Nat.zero_le _) aR (λ v=>i7 (λ m=>nomatch m)) λ U aH hU U8 f=>?_;have XS:∀{m:Str->Option Value} {ns:List Str} {J:XW},x∈((fu 59 x dx m ns).and J).fp:=bL _ di;have abn:∀{m:Str->Option Value} {ns:List Str} {J:XW},dx∈((fu 59 x dx m ns).and J).fp:=bL _ (Ym _ di);have ON:dx∉(dc U []).fp:=λ m=>U8 (bj m▸abn);refine o0 wz (aa_:=λ v=>(dc U []).and ((fu 59 x dx (upd (upd (λ ξ=>none) "useragents" (.ref U)) "rulelines" v) ["rulelines","useragents"]).and Y8)) f af abl (by simp) aR (λ v=>g7 (i7 (λ m=>nomatch m)) ON) λ L bS hL I7 f=>?_;have LC:L≠x:=λ q=>I7 (by rw [q];exact bC _ XS);have uL:L≠dx:=λ q=>I7 (by rw [q];exact bC _ abn);have NI:dx∉(dc L []).fp:=λ m=>uL (bj m).symm;refine mz wz (aa_:=λ v=>(dc L []).and ((dc U []).and ((fu 59 x dx (upd (upd (upd (λ ξ=>none) "useragents" (.ref U)) "rulelines" (.ref L)) "delay" v) ["delay","rulelines","useragents"]).and Y8))) f ik af abl (by simp) aR (λ v=>g7 (g7 (i7 (λ m=>nomatch m)) ON) NI) λ kU bY ξ f=>?_;refine mz wz (aa_:=λ v=>(dc L []).and ((dc U []).and ((fu 59 x dx (upd (upd (upd (upd (λ ξ=>none) "useragents" (.ref U)) "rulelines" (.ref L)) "delay" kU) "req_rate" v) ["req_rate","delay","rulelines","useragents"]).and Y8))) f ik af abl (by simp) aR (λ v=>g7 (g7 (i7 (λ m=>nomatch m)) ON) NI) λ FF dK ξ f=>?_;refine bf ⟨rfl,?_,x,dx,L,rfl,?_,LC,uL,fg,?_⟩
 ·refine cS f.aaH.same λ BG NJ d6=>?_;subst d6;refine d8 _ _ rfl (λ b o e=>f.aaH.keep b o (λ m=>?_) (k₁ b o e));rw [uJ (p:=λ b=>hh.get? b=none) n7 gp b m] at e;cases e
 ·intro b hb;rcases cF hb with rfl|hb
  ·exact n7
  ·rcases cF hb with rfl|hb
   ·exact gp
   ·rw [bj hb];have:=(f.aar L (bL _ (List.mem_singleton.mpr rfl))).2.2.2;rcases this with q|q
    ·rcases cF q with q|q
     ·exact absurd q LC
     ·exact absurd (bj q) uL
    ·cases e:hh.get? L with
     |none=>rfl
     |some o=>have:=k₁ _ _ e;rw [this] at q;cases q
 ·refine jw f.jp λ dI ξ wA ξ=>?_;refine bu dI λ vs n e1 e2=>?_;refine cO wA λ I ξ=>?_;exact uX ⟨_,I,by rfl,by rfl⟩ vs n e1 (e2.mono (cT λ b hb=>f.sub b (bC _ hb)))
def BH (hF:∀b∈F,b∈S) (x:∀b o,b∉F->h.get? b=some o->h'.get? b=some o) (n:∀b∈S',b∈S\/h.get? b=none):XN (hide S h) (hide S' h'):=λ b o e=>by
 rw [bI] at e⊢;split at e
 ·cases e
 ·rename_i hb;rw [if_neg λ m=>?_]
  ·exact x b o (λ m=>hb (hF b m)) e
  ·rcases n b m with q|q
   ·exact hb q
   ·rw [q] at e;cases e
def BI {ai:List ι} {abL:ι->YJ} {β:ι->eV} {R:ι->YJ} {X:XW} {Q:Value->Shared->Prop}
  (ok:fS sc ρ ag) {Ok:Expr->Prop} (hs:jP A sc ρ aG ai abL Ok) (iG:∀aa x,foldedSetIterable aG aa x=pure x) (bl:ai.length<=sizeLine) (g8:Ok aN)
  (ht:∀a∈ai,jn A (cg sc ag.names) (ownOf ag) aN (abL a) (β a))
  (ni:∀a∈ai,∀S' cenv s',XK (cg sc ag.names) (β a) S' cenv s'.heap->(∀b∈X.fp,b∈S')->X.p (hide S' s'.heap) s'.heap->wpAny (model XX w) A (eval bP cenv) (λ v gh=>abO X.fp s' gh/\X.p (hide S' gh.heap) gh.heap/\(R a).p (hide S' gh.heap) v) dj s')
  (c:XK sc ρ S aa s.heap) (LD:∀b∈X.fp,b∈S) (hX:X.p (hide S s.heap) s.heap)
  (hQ:∀(D:Addr) s',abO X.fp s s'->s.heap.get? D=none->X.p (hide S s'.heap) s'.heap->(cH (ai.map R)).p (hide S s'.heap) (.ref D)->Q (.ref D) s'):
  wpAny (model XX w) A (eval (.ListComp bP [⟨aN,aG,[],0⟩] ag ar) aa) Q E s:=by
 rw [eval_ListComp];refine aK (mR ok c) λ cl pI ξ=>?_;refine wpAny_comprehension_free (cl:=cl) rfl (iG aa) pI ok.kind (λ z hz hl=>by obtain ⟨n,k⟩:=z;exact (lookup_mem ok.nodup hz).trans (congrArg some hl)) ?_
 refine Zh (hs S aa s c) (λ xv aaq q=>?_) eY;refine cZ q λ aj k₁ kx q=>?_;refine Zh q (λ it aA q=>?_) eY;refine jH q λ k₂ I fp wr St dI W o6 kX=>?_;subst dI;replace k₂:=aL kx k₂;have H8:=W.new;have H9:=W.live;have c₁:=c.mono (kle k₁);refine aK (mR ok c₁) λ uz qD fv=>?_;have qS:uz=cl:=by rw [pI] at qD;exact (Sem.pure.inj qD).symm
 subst qS;refine wpAny_newObj_type ?_;generalize vt:({aA with heap:=aA.heap.push {cls:=.type "list",data:=.seq ([]:List Value).toArray}}:Shared)=aH;have oj:aH.heap=aA.heap.push {cls:=.type "list",data:=.seq ([]:List Value).toArray}:=by rw [<-vt]
 have kh:XN aA.heap aH.heap:=λ b o e=>by rw [oj];exact cN _ e
 have tg:XN aj.heap aH.heap:=(kle k₂).trans kh;have hsz:aH.heap.objs.size=aA.heap.objs.size+1:=by rw [oj,Heap.size_push]
 have hD:aH.heap.get? aA.heap.objs.size=some {cls:=.type "list",data:=.seq ([]:List Value).toArray}:=by rw [oj];exact Heap.get?_push_size _ rfl
 have vv:Keeps aj aH:=by refine aL k₂ ?_;rw [<-vt];exact d8 _ _ rfl (λ b o e=>cN _ e)
 obtain ⟨Gv,nH,sf,jd,kG,fresh⟩:=fv aH (aA.heap.objs.size::wr) tg (λ b hb=>by
  rcases cF hb with rfl|hb
  ·exact A0 (mi (kle k₂) (Nat.le_refl _)) _ hD
  ·refine aM (H9 0 _ o6 b hb) λ o e=>?_;exact A0 (H8 b hb) o (kh _ _ e))
 refine A7 ?_;show codeAny _ _ (.compStart _ 0 (.ref I) (.ref aA.heap.objs.size) (iC (relabel ag aa) (cellsFrom (aH.heap.objs.size+1) ag.names uz) aH.heap.objs.size aa)) _ _;generalize hC:aH.heap.objs.size=C at*;generalize Ll:aA.heap.objs.size=D at*;generalize vy:iC (relabel ag aa) (cellsFrom (C+1) ag.names uz) C aa=cenv at*;have ir:cenv.locals=C:=by rw [<-vy];rfl
 have iX:cenv.cells=cellsFrom (C+1) ag.names uz:=by rw [<-vy];rfl
 generalize je:(C::g5 ag C++(D::wr++S))=S' at*;have Of:C∈S':=by rw [<-je];exact bL _ di
 have e9:D∈S':=by rw [<-je];exact bC _ (bL _ di)
 have Dz:∀b∈wr,b∈S':=λ b hb=>by rw [<-je];exact bC _ (bL _ (Ym _ hb))
 have lA:∀b∈S,b∈S':=λ b hb=>by rw [<-je];exact bC _ (bC _ hb)
 have pJ:@Eq Nat C (D+1):=hsz;have Bj:C≠D:=λ e=>Nat.succ_ne_self D (pJ.symm.trans e);have Fk:∀b∈fp,b≠C:=λ b hb e=>by have h1:@LT.lt Nat _ b D:=kX b hb;have h2:@Eq Nat b C:=e;w_up
 have Ib:∀b∈fp,b≠D:=λ b hb e=>by have h1:@LT.lt Nat _ b D:=kX b hb;have h2:@Eq Nat b D:=e;w_up
 have Fl:∀b∈fp,∀n∈ownOf ag,cenv.cells.lookup n≠some b:=λ b hb n hn e=>by have h1:@LT.lt Nat _ C b:=kG n hn b (by rw [<-iX];exact e);have h2:@LT.lt Nat _ b D:=kX b hb;w_up
 have jt:∀b,D≤b->aj.heap.get? b=none:=λ b h=>mi (kle k₂) (by rw [Ll];exact h);have zI:∀n∈ownOf ag,∀b,cenv.cells.lookup n=some b->aj.heap.get? b=none:=λ n hn b e=>by have h1:@LT.lt Nat _ C b:=kG n hn b (by rw [<-iX];exact e);exact jt b (by show @LE.le Nat _ D b;w_up)
 have dw:∀b o,aj.heap.get? b=some o->b≠D/\b≠cenv.locals/\(∀n∈ownOf ag,cenv.cells.lookup n≠some b)/\b∉wr:=λ b o e=>by
  refine iD (λ h=>?_) (λ h=>?_) (λ n hn h=>?_) (λ h=>?_)
  ·rw [jt b (Nat.le_of_eq h.symm)] at e;cases e
  ·rw [jt b (by rw [h,ir,pJ];exact Nat.le_succ _)] at e;cases e
  ·rw [zI n hn b h] at e;cases e
  ·rw [H8 b h] at e;cases e
 have tM:∀b∈X.fp,∃o,aj.heap.get? b=some o:=λ b hb=>c₁.b4 b (LD b hb);have NK:∀b∈X.fp,b∈S':=λ b hb=>lA b (LD b hb);have U9:∀b∈fp,b∉X.fp:=λ b hb m=>W.out b hb (LD b m);generalize vz:({aH with heap:=pushCells (aH.heap.push {cls:=.type "dict",data:=.dict #[]}) ag.names}:Shared)=bS;have zJ:bS.heap=pushCells (aH.heap.push {cls:=.type "dict",data:=.dict #[]}) ag.names:=by rw [<-vz]
 have nI:Keeps aj bS:=by refine aL vv ?_;rw [<-vz];exact d8 _ _ rfl (λ b o e=>jd b o e)
 rw [<-zJ] at nH sf jd;have vA:St 0 bS.heap:=W.frame _ _ _ o6 λ b ξ o e=>jd _ _ (kh _ _ e);have lO:=Gv bS.heap (kle nI) nH;have I8:∀{s':Shared},abO X.fp aj s'->XN (hide S aj.heap) (hide S' s'.heap):=λ k=>BH LD k.keep fresh;have U':∀{s':Shared},abO X.fp aj s'->(∀b∈S',∃o,s'.heap.get? b=some o)->XK (cg sc ag.names) [] S' cenv s'.heap:=λ k lv=>⟨lO.names,lO.kind,lO.glob,lO.bi,λ n P e=>(by cases e),lv,c₁.top.mono (I8 k)⟩;have sE:X.p (hide S aj.heap) aj.heap:=X.st (aJ (kle k₁)) ao ao (λ b ξ o e=>kle k₁ _ _ e) hX;have Rt:X.p (hide S' bS.heap) bS.heap:=X.st (dH (kle nI) fresh) ao ao (λ b ξ o e=>kle nI _ _ e) sE;let J:Nat->Shared->Prop:=λ i s'=>abO X.fp aj s'/\(∀b∈S',∃o,s'.heap.get? b=some o)/\iV (ownOf ag) S' cenv s'.heap/\St i s'.heap/\X.p (hide S' s'.heap) s'.heap/\∃ys m,IsL s'.heap D ys m/\AllP (hide S' s'.heap) ((ai.take i).map R) ys.toList;have loop:codeAny (model XX w) A (.compLoop (.ListComp bP [⟨aN,aG,[],0⟩] ag ar) 0 (.ref I) (.ref D) cenv) (compPost (model XX w) A E none Q (.ref D) C) bS:=by
  refine rm (n:=ai.length) (aN:=aN) (ipos:=aG.pos) (bA:=[]) (cJ:=do let _<-call (.builtin "list.append") [.ref D,<-eval bP cenv]) (by first|rfl|exact rfl) J ?_ ?_ ⟨abO.of nI,nH,sf,vA,Rt,#[],0,jd _ _ hD,trivial⟩ rfl rfl rfl
  ·rintro i s' hi ⟨XY,ZZ,abR,vB,aa6,ys,m,DA,o7⟩;refine W.turn i hi aN g8 s' S' _ vB (I8 XY) Dz ZZ λ v h' tk hv ip dE=>?_;have ha:ai[i]∈ai:=List.getElem_mem hi;have tm:∀b,D≤b->b∉wr:=λ b h m=>Nat.not_lt.mpr h (kX b (W.sub b m));have nh:abO S' s' {s' with heap:=h',toks:=tk}:=⟨⟨_,_,rfl⟩,λ b o n e=>dE b o (λ m=>n (Dz b m)) e,λ b o e=>by
    by_cases m:b∈wr
    ·exact H9 _ _ ip b m
    ·exact ⟨o,dE b o m e⟩⟩
   have zK:abO X.fp aj {s' with heap:=h',toks:=tk}:=by refine cS XY.same λ hh tt e=>?_;exact ⟨⟨h',tk,by rw [e]⟩,λ b o n x=>dE b o (dw b o x).2.2.2 (XY.keep b o n x),λ b o x=>let ⟨o',y⟩:=XY.live b o x;nh.live b o' y⟩
   have Oh:iV (ownOf ag) S' cenv h':=abR.keep (λ o e=>dE _ o (tm _ (by rw [ir,pJ];exact Nat.le_succ _)) e)
    λ n hn cc q o e=>dE _ o (tm _ (by have h1:@LT.lt Nat _ C cc:=kG n hn cc (by rw [<-iX];exact q);show @LE.le Nat _ D cc;w_up)) e
   have vC:∀b∈S',∃o,h'.get? b=some o:=λ b hb=>let ⟨o,e⟩:=ZZ b hb;nh.live b o e;have OO:X.p (hide S' h') h':=X.st nh.le ao ao (λ b hb o e=>dE b o (let ⟨pH,i9⟩:=tM b hb;(dw b pH i9).2.2.2) e) aa6;refine ht _ ha [] S' cenv _ v _ _ (U' zK vC) Oh hv λ bY h9 pK yE iu=>?_;rw [List.append_nil] at pK;have qY:abO X.fp aj bY:=by refine cS zK.same λ hh tt e=>?_;refine cS h9.same λ Oi Oj e'=>?_;exact ⟨⟨Oi,Oj,by rw [e',e]⟩,λ b o n x=>iu b o (dw b o x).2.1 (dw b o x).2.2.1 (zK.keep b o n x),λ b o x=>let ⟨o',y⟩:=zK.live b o x;h9.live b o' y⟩
   have tn:St (i+1) bY.heap:=W.frame _ _ _ ip λ b hb o e=>iu b o (λ q=>Fk b hb (q.trans ir)) (Fl b hb) e;have Ru:X.p (hide S' bY.heap) bY.heap:=X.st h9.le ao ao (λ b hb o e=>iu b o (let ⟨pH,i9⟩:=tM b hb;(dw b pH i9).2.1) (let ⟨pH,i9⟩:=tM b hb;(dw b pH i9).2.2.1) e) OO;have vD:IsL bY.heap D ys m:=iu D _ (λ q=>Bj (ir.symm.trans q.symm)) (λ n hn q=>by have h1:@LT.lt Nat _ C D:=kG n hn D (by rw [<-iX];exact q);w_up) (dE D _ (tm D (Nat.le_refl _)) DA)
   have kb:AllP (hide S' bY.heap) ((ai.take i).map R) ys.toList:=(o7.mono nh.le).mono h9.le;have Fo:∀b∈S',∃o,bY.heap.get? b=some o:=λ b hb=>let ⟨o,e⟩:=vC b hb;h9.live b o e;refine wpAny_tests_nil ?_;rw [if_pos rfl];refine Z4 (Zh (ni _ ha S' cenv bY pK NK Ru) (λ y dT q=>?_) dp);refine eU q λ tN Rv py=>?_;have Yw:∀b,(∀o,aj.heap.get? b≠some o)->b∉X.fp:=λ b n m=>let ⟨o,e⟩:=tM b m;n o e;have Rw:D∉X.fp:=Yw D λ o e=>(dw D o e).1 rfl;have Va:cenv.locals∉X.fp:=Yw _ λ o e=>(dw _ o e).2.1 rfl;have Rx:abO S' bY dT:=tN.more NK;have Ry:IsL dT.heap D ys m:=tN.keep _ _ Rw vD;have Rz:ys.size<=sizeLine:=by
    have e1:=kb.length;rw [Array.length_toList,lm] at e1;have e3:(ai.take i).length<=ai.length:=by rw [List.length_take];exact Nat.min_le_right ..
    w_up
   refine Z4 (wpAny_list_append_plain (hsz:=Rz) ⟨m,Ry⟩ λ qZ oE Ad=>X5 ?_);refine aM oE λ m' oE=>?_;have iH:abO S' dT {dT with heap:=qZ}:=(abO.set Ad λ ξ ξ=>⟨_,oE⟩).more λ b hb=>by rw [bj hb];exact e9
   have hx:∀b o,b≠D->dT.heap.get? b=some o->qZ.get? b=some o:=λ b o n e=>(Ad.2 b n).trans e;have wB:abO X.fp aj dT:=qY.trans tN;refine ⟨?_,λ b hb=>?_,?_,?_,?_,ys.push y,m',oE,?_⟩
   ·refine cS wB.same λ hh tt e=>?_;exact ⟨⟨qZ,tt,by rw [e]⟩,λ b o n x=>hx b o (dw b o x).1 (wB.keep b o n x),λ b o x=>let ⟨o',y⟩:=wB.live b o x;⟨o',hx b o' (dw b o x).1 y⟩⟩
   ·refine aM (Fo b hb) λ o e=>?_;refine aM (Rx.live b o e) λ o' e'=>?_;exact iH.live b o' e'
   ·refine (yE.keep (λ o e=>tN.keep _ o Va e) λ n hn cc q o e=>tN.keep _ o (Yw cc λ o e=>(dw cc o e).2.2.1 n hn q) e).keep (λ o e=>hx _ o (λ q=>Bj (ir.symm.trans q)) e) λ n hn cc q o e=>hx _ o (λ q'=>?_) e;have h1:@LT.lt Nat _ C cc:=kG n hn cc (by rw [<-iX];exact q);have h2:@Eq Nat cc D:=q';w_up
   ·exact W.frame _ _ _ tn λ b hb o e=>hx _ o (Ib b hb) (tN.keep _ _ (U9 b hb) e)
   ·exact X.st iH.le ao ao (λ b hb o e=>hx b o (λ q=>Rw (q▸hb)) e) Rv
   ·have Ae:ai.take (i+1)=ai.take i++[ai[i]]:=by rw [List.take_add_one];simp [hi]
    rw [Ae,List.map_append,Array.toList_push];exact ((kb.mono Rx.le).mono iH.le).append ⟨(R ai[i]).mono iH.le py,trivial⟩
  ·rintro s' ⟨XY,ZZ,abR,vB,aa6,ys,m,DA,o7⟩;refine W.done s' _ _ vB λ h' tk dE=>⟨rfl,?_⟩;have tm:∀b,D≤b->b∉wr:=λ b h m=>Nat.not_lt.mpr h (kX b (W.sub b m));have dS:XN (hide S' s'.heap) (hide S' h'):=b5 λ b o n e=>dE b o (λ m=>n (Dz b m)) e;rw [List.take_length] at o7;have old:∀b,D≤b->s.heap.get? b=none:=λ b h=>by
    cases e:s.heap.get? b with
    |none=>rfl
    |some o=>have:=jt b h;rw [kle k₁ _ _ e] at this;cases this
   have OO:X.p (hide S' h') h':=X.st dS ao ao (λ b hb o e=>dE b o (let ⟨pH,i9⟩:=tM b hb;(dw b pH i9).2.2.2) e) aa6;have nj:∃m,h'.Ns C m:=by refine aM abR.ns λ mm gj=>?_;refine cY gj λ o es ep e r=>?_;exact pn mm o es ep (dE _ _ (tm _ (by rw [pJ];exact Nat.le_succ _)) (by rw [<-ir];exact e)) r
   refine aM nj λ mm nj=>?_;refine cV mm nj (λ ug rF=>?_);have Zj:aj.heap.get? C=none:=jt C (by rw [pJ];exact Nat.le_succ _);have Vb:C∉X.fp:=λ m=>let ⟨o,e⟩:=tM C m;by rw [Zj] at e;cases e
   have LF:D∉S:=λ m=>by refine aM (c₁.b4 D m) λ o e=>?_;rw [jt D (Nat.le_refl _)] at e;cases e
   have om:XN (hide S' h') (hide S ug):=λ b o e=>by
    rw [bI] at e⊢;split at e
    ·cases e
    ·rename_i hb;rw [if_neg λ m=>hb (lA b m)];exact (rF.2 b λ q=>hb (q▸Of)).trans e
   refine hQ D _ ?_ (old D (Nat.le_refl _)) (X.st om ao ao (λ b hb o e=>(rF.2 b λ q=>Vb (q▸hb)).trans e) OO) ⟨D,ys,m,rfl,?_,(o7.mono dS).mono om⟩
   ·refine cS XY.same λ hh tt e=>?_;refine bu k₁ λ Vc Vd iM I9=>?_;have dn:∀b o,s'.heap.get? b=some o->b∉wr->b≠C->ug.get? b=some o:=λ b o z n1 n2=>(rF.2 b n2).trans (dE b o n1 z);have RA:∀b o,aj.heap.get? b=some o->b≠C:=λ b o z q=>by rw [q,Zj] at z;cases z
    refine ⟨⟨ug,tk,by rw [e,iM]⟩,λ b o n x=>?_,λ b o x=>?_⟩
    ·have sE:aj.heap.get? b=some o:=by rw [iM];exact I9 b o x
     exact dn b o (XY.keep b o n sE) (dw b o sE).2.2.2 (RA b o sE)
    ·have sE:aj.heap.get? b=some o:=by rw [iM];exact I9 b o x
     refine aM (XY.live b o sE) λ o' y=>?_;exact ⟨o',dn b o' y (dw b o sE).2.2.2 (RA b o sE)⟩
   ·show Heap.get? (hide S ug) D=_;rw [bI,if_neg LF];exact (rF.2 D λ q=>Bj q.symm).trans (dE _ _ (tm _ (Nat.le_refl _)) DA)
 show codeAny _ _ _ (compPost _ _ _ _ _ _ C) _;exact codeAny_compStart_list loop (W.self 0 _ _ _ vA loop)
def OP {c:Prop} [Decidable c] {p q:Prop} (a:p) (b:q):if c then p else q:=by by_cases h:c;rw [if_pos h];exact a;rw [if_neg h];exact b
def FG {f:Value} {first:List Value} {aE:List (Bool×Sem Value)} {Q:Value->Shared->Prop} (hp:aE.any (·.1)=false) (hk:keepIn (KK w.params) f=true)
  (h:wpAny (model XX w) A (spliced aE) (λ vs aj=>(KK w.params).In aj.heap/\wpAny (model XX w) A (call f (first++vs) []) Q E aj) E s):wpAny (model XX w) A (callWith ar f first aE []) Q E s:=by
 unfold callWith;refine Z4 (XG (kg hp (Zh h (λ vs aj dg=>Z4 (ig ?_)) dp)));refine cO dg λ X dg=>?_;have cJ:∀{t:Sem Value},wpAny (model XX w) A t Q E aj->wpAny (model XX w) A (t>>=λ r=>holding [r] point>>=λ ξ=>pure r) Q E aj:=
  λ ht=>Z4 (Zh ht (λ r aA hr=>Z4 (XG (wpAny_point (X5 hr)))) dp)
 rw [hp];refine aK (looks_keep (M:=model XX w) hk X) λ k hk L=>?_;refine Z4 (L.here ?_);rcases hk with rfl|rfl
 ·refine wpAny_ite ?_;exact OP (cJ dg) (cJ (by unfold callMarked;exact Calls.wpAny_keep dg))
 ·exact cJ dg
def eG {aE:List Expr} {Q:Value->Shared->Prop}
  (he:∃pl:Sem Bool,eval (.Call (.Attribute o name bE) aE [] ar) aa=(do
   let ov<-eval o aa
   standAt bE.atName
   let (f,first)<-holding [ov] (getMethod ov name pl)
   callWith ar f first (backTo ar (starEach aE aa)) []))
  (h:wpAny (model XX w) A (eval o aa) (λ ov aj=>∀pl,wpAny (model XX w) A (getMethod ov name pl) (λ fp aA=>wpAny (model XX w) A (callWith ar fp.1 fp.2 (backTo ar (starEach aE aa)) []) Q E aA) E aj) E s):
  wpAny (model XX w) A (eval (.Call (.Attribute o name bE) aE [] ar) aa) Q E s:=by
 refine aM he λ pl e=>?_;rw [e];exact Z4 (Zh h (λ ov aj q=>Z4 (ig (Z4 (XG (Zh (q pl) (λ fp aA z=>z) dp))))) dp)
def jW {Ja:Pos} (c:XK sc ρ S aa s.heap) (gP:∀aa:Env,aa.scope.kind= .function->aa.scope.names=sc->swapsWith e none Ja.line aa=pure false)
  (h:wpAny (model XX w) A (eval e aa) (λ v aj=>(∀a,v≠ .ref a)/\wpAny (model XX w) A (execs aD aa) Q E aj) E s):wpAny (model XX w) A (execs (.Expr e Ja::aD) aa) Q E s:=by
 refine YF ?_;rw [exec_Expr aa _ Ja (iz c) (gP aa c.kind c.names)];refine Z4 (ig (Z4 (Zh h (λ v aj q=>?_) dp)));rw [dropValue_plain q.1];exact X5 q.2
def LG:keepIn (KK w.params) (.ref 59)=true:=by rfl
def Jb:keepIn (KK w.params) (.ref 179)=true:=by rfl
def LH:keepIn (KK w.params) (.ref 82)=true:=by rfl
section
open Builtin Builtin.ObjectAttr Builtin.Getset_descriptor
structure abp where
 node:Tx
 np:Int
 succ:List Tx
def ia:List Tx->List Value->Prop
 |[],[]=>True
 |x::xs,v::vs=>(∃t,v= .str x.s t)/\ia xs vs
 |_,_=>False
def eH:∀{xs:List Tx} {vs:List Value},ia xs vs<->AllP g (xs.map is) vs:=by
 intro xs;induction xs with
 |nil=>
  intro Z2;cases Z2 with
  |nil=>exact Iff.rfl
  |cons _ _=>exact Iff.rfl
 |cons x xs ih=>
  intro Z2;cases Z2 with
  |nil=>exact Iff.rfl
  |cons v vs=>
   show (_/\_)<->(_/\_);rw [ih];exact and_congr_left λ ξ=>bz.symm
def ia.length {xs:List Tx} (x:ia xs vs):vs.length=xs.length:=by
 induction xs generalizing vs with
 |nil=>cases vs with
  |nil=>rfl
  |cons _ _=>exact x.elim
 |cons _ _ ih=>cases vs with
  |nil=>exact x.elim
  |cons _ _=>rw [List.length_cons,List.length_cons,ih x.2]
def ia.append {xs ys:List Tx} {ws:List Value} (x:ia xs vs) (y:ia ys ws):ia (xs++ys) (vs++ws):=by
 induction xs generalizing vs with
 |nil=>cases vs with
  |nil=>exact y
  |cons _ _=>exact x.elim
 |cons _ _ ih=>cases vs with
  |nil=>exact x.elim
  |cons _ _=>exact ⟨x.1,ih x.2⟩
noncomputable abbrev rG (dx:Addr) (sl:Array (Option Value)):Obj:=⟨.ref 82,some dx,.plain,sl⟩
structure jX (h:Heap) (a dx b:Addr) (nd:abp):Prop where
 at_:∃t1 t2,h.get? a=some (rG dx #[some (.str nd.node.s t1),some (.int nd.np t2),some (.ref b)])
 rH:h.get? dx=some emptyDict
 XA:∃vs n,IsL h b vs n/\ia nd.succ vs.toList
def jX.keeps {nd:abp} (x:jX h a dx b nd) (k:∀c∈[a,dx,b],∀o,h.get? c=some o->h'.get? c=some o):jX h' a dx b nd:=
 ⟨let ⟨t1,t2,e⟩:=x.at_;⟨t1,t2,k a (by simp) _ e⟩,k dx (by simp) _ x.rH,let ⟨vs,n,e,q⟩:=x.XA;⟨vs,n,k b (by simp) _ e,q⟩⟩
section
variable {sl:Array (Option Value)}
def kq {Q:Value->Shared->Prop} (X:(KK w.params).In s.heap) (ha:s.heap.get? a=some (rG dx sl)) (jQ:∃od,s.heap.get? dx=some od)
  (hf:findIn (KK w.params) (.ref 82) name=some (some (.ref p))) (hn:specialIn (KK w.params) (.ref p) "__get__"=some (some (.builtin "member_descriptor.__get__"))) (ht:takesIn (KK w.params) (.ref p)=some true) (hp:slotIn (KK w.params) p 82=some i)
  (hv:(sl[i]?).join=some v) (hh:handedIn v=true) (q:Q v {s with toks:=s.toks+1}):wpAny (model XX w) A (getAttr (.ref a) name expr) Q E s:=by
 refine aM jQ λ od aav=>?_;have aa3:PySem.W.InstAt s.heap a (rG dx sl) 82 (some od):=⟨ha,rfl,rfl,aav⟩;exact get_bind X aa3 abl (findObj_data abl hf hn ht) abl (wpAny_call (slot_get (s:={s with toks:=s.toks+1}) X aa3 hp hv (handed_on hh q)))
def BJ {R:Result->Shared->Prop} (X:(KK w.params).In s.heap) (ha:s.heap.get? a=some (rG dx sl)) (jQ:∃od,s.heap.get? dx=some od) (hp:slotIn (KK w.params) p 82=some i) (hi:i<1000)
  (q:∀h',Heap.SameBut a s.heap h'->h'.get? a=some (rG dx ((sl++Array.replicate (i+1 - sl.size) none).setIfInBounds i (some v)))->R (.ok (.ret .none)) {s with heap:=h'}):
  codeAny (model XX w) A (.call (.builtin "member_descriptor.__set__") ⟨[.ref p,.ref a,v],[]⟩) R s:=by
 refine aM jQ λ od aav=>?_;have I:PySem.W.InstAt s.heap a (rG dx sl) 82 (some od):=⟨ha,rfl,rfl,aav⟩;obtain ⟨n,aaA,owner,behind,tb,d,GX,cd,ho,hc,hm,hb,rfl⟩:=slot_of X hp;obtain ⟨hh,g,dr,t,os⟩:=s;have aaw:=I.type (M:=model XX w);have YG:=looks_mroIn (M:=model XX w) X hm;have abI:Looks (model XX w) hh (Slots.slotNamesOf (.ref 82)) cd.slotNames:=(looks_clsIn X hc).andThen .now;dsimp only at ho aaw YG ha;have f0:=looks_field (M:=model XX w) ho 0 (v:=.str n aaA) rfl;have f1:=looks_field (M:=model XX w) ho 1 (v:=owner) rfl;have abJ:=looks_field (M:=model XX w) ho 3 (v:=.builtin "proto.slot#set") rfl;have f4:=looks_field (M:=model XX w) ho 4 (v:=.int behind tb) rfl;refine codeAny_call_builtin KF.slot_mset.plain KF.entry_mset (KF.slot_mset.check _ _ _ _ _ _ _ _ ⟨_,ho,rfl⟩ (KF.args_mset _ _ _) ?_);unfold Builtin.«member_descriptor.__set__» descrSet descrStoreThrough descrCheckInstance descrNameAndClass isInstance;have aal:Looks (model XX w) hh (descrItself (.ref p)) [.ref p]:=((Looks.ld (part:=none) ho).andThen .now).andThen (Looks.of_pure (by kernel_rfl));repeat lk
 refine ⟨Code.quiet_builtin _ abd,codeAny_builtin KF.entry_slotset ?_⟩;unfold Builtin.«proto.slot#set» Slots.target;repeat lk
 rw [if_neg hb];refine X5 (Z4 ?_);unfold setSlotAt;dsimp only;rw [if_neg (by rw [sizeLine_eq];w_up)];exact wpAny_updatePart ha (X5 (q _ (Heap.SameBut.update ..) (Heap.get?_update_self _ ha rfl)))
def p0 {Q:Unit->Shared->Prop} (X:(KK w.params).In s.heap) (ha:s.heap.get? a=some (rG dx sl)) (jQ:∃od,s.heap.get? dx=some od) (ht:takerIn (KK w.params) 82 name=some (some (.ref p))) (hT:typeIn (KK w.params) (.ref p)=some (.type "member_descriptor")) (hp:slotIn (KK w.params) p 82=some i) (hi:i<1000)
  (q:∀h' tk,Heap.SameBut a s.heap h'->h'.get? a=some (rG dx ((sl++Array.replicate (i+1 - sl.size) none).setIfInBounds i (some v)))->Q () {s with heap:=h',toks:=tk}):wpAny (model XX w) A (setAttr (.ref a) name v) Q E s:=by
 refine aM (id jQ) λ od aav=>?_;have aa3:PySem.W.InstAt s.heap a (rG dx sl) 82 (some od):=⟨ha,rfl,rfl,aav⟩;exact set_plain X aa3 abl (osa_descr (s:={s with toks:=s.toks+1}) KF.slot_mset X aa3 abl ht hT (BJ (s:={s with toks:=s.toks+1}) X ha jQ hp hi λ h' hs hg=>q h' _ hs hg))
def RB:takerIn (KK w.params) 82 "node"=some (some (.ref 83)):=by rfl
def Jc:takerIn (KK w.params) 82 "npredecessors"=some (some (.ref 84)):=by rfl
def RC:takerIn (KK w.params) 82 "successors"=some (some (.ref 85)):=by rfl
def NL:slotIn (KK w.params) 83 82=some 0:=by rfl
def yS:slotIn (KK w.params) 84 82=some 1:=by rfl
def Jd:slotIn (KK w.params) 85 82=some 2:=by rfl
end
end
noncomputable def jD (sl:Array (Option Value)) (i:Nat) (v:Value):Array (Option Value):=(sl++Array.replicate (i+1 - sl.size) none).setIfInBounds i (some v)
def LI (u v x:Value):jD (jD (jD #[] 0 u) 1 v) 2 x=#[some u,some v,some x]:=by apply Array.toList_inj.mp;simp [jD,List.set,List.replicate]
def FH (u v x y:Value):jD #[some u,some v,some x] 1 y=#[some u,some y,some x]:=by apply Array.toList_inj.mp;simp [jD,List.set]
noncomputable def p5 (a dx:Addr) (sl:Array (Option Value)):XW:=⟨[a,dx],λ ξ h=>h.get? a=some (rG dx sl)/\h.get? dx=some emptyDict,λ ξ ξ ξ k ⟨x,y⟩=>⟨k a di _ x,k dx (Ym _ di) _ y⟩⟩
section
variable {sl:Array (Option Value)}
def wC (f:YQ sc ak F aw az aa ρ J S s) (ht:takerIn (KK w.params) 82 name=some (some (.ref p))) (hT:typeIn (KK w.params) (.ref p)=some (.type "member_descriptor")) (hp:slotIn (KK w.params) p 82=some i) (hi:i<1000)
  (L:jU J jT a (p5 a dx sl).p (p5 a dx (jD sl i v)).p) (fg:dx≠a) (k:∀s',XN (hide S s.heap) (hide S s'.heap)->YQ sc ak F aw az aa ρ jT S s'->XF () s'):
  wpAny (model XX w) A (setAttr (.ref a) name v) XF E s:=by
 refine cO (L.get f.jp) λ I aav=>?_;refine p0 (f.cx.top.k.keeps ao) I ⟨_,aav⟩ ht hT hp hi λ h' tk hs hg=>?_;have e9:=(f.aar a L.mem).1;have dS:XN (hide S s.heap) (hide S h'):=b5 λ b o nb e=>(hs.2 b λ q=>nb (q▸e9)).trans e;exact k _ dS (f.NG L hs ⟨_,hg⟩ ⟨hg,(hs.2 dx fg).trans aav⟩)
def wD {aa_:Value->XW} (f:YQ sc ak F aw az aa ρ J S s) (hv:Ev A sc ρ aaB P) (Ac:Ev A sc ρ (.Name z YA) (lit (.ref a))) (ht:takerIn (KK w.params) 82 name=some (some (.ref p))) (hT:typeIn (KK w.params) (.ref p)=some (.type "member_descriptor")) (hp:slotIn (KK w.params) p 82=some i) (hi:i<1000) (fg:dx≠a)
  (gP:∀aa:Env,aa.scope.kind= .function->aa.scope.names=sc->swapsWith aaB (some (.Attribute (.Name z YA) name ap)) ar.line aa=pure false)
  (L:∀v,jU J (aa_ v) a (p5 a dx sl).p (p5 a dx (jD sl i v)).p)
  (k:∀v s',P.p (hide S s'.heap) v->YQ sc ak F aw az aa ρ (aa_ v) S s'->wpAny (model XX w) A (execs aD aa) Q E s'):wpAny (model XX w) A (execs (.Assign [.Attribute (.Name z YA) name ap] aaB ar::aD) aa) Q E s:=
 YF (plainObj_wpAny_Assign_Attribute (hs:=gP aa f.cx.kind f.cx.names) (hv.use f.cx λ v aj k₁ c₁ aZ=>Ac.use c₁ λ u aA k₂ c₂ cG=>by rw [show u= .ref a from cG];exact wC (f.keep (aL k₁ k₂)) ht hT hp hi (L v) fg λ s' le f'=>k v s' (P.mono le (P.mono (aJ (kle k₂)) aZ)) f'))
def uM {aa_:Value->XW} (f:YQ sc ak F aw az aa ρ J S s) (Ac:Ev A sc ρ (.Name z YA) (lit (.ref a))) (ht:takerIn (KK w.params) 82 name=some (some (.ref p))) (hT:typeIn (KK w.params) (.ref p)=some (.type "member_descriptor")) (hp:slotIn (KK w.params) p 82=some i) (hi:i<1000) (fg:dx≠a)
  (gP:∀aa:Env,aa.scope.kind= .function->aa.scope.names=sc->swapsWith (.List [] lp) (some (.Attribute (.Name z YA) name ap)) ar.line aa=pure false)
  (L:∀v,jU J (aa_ v) a (p5 a dx sl).p (p5 a dx (jD sl i v)).p)
  (k:∀D s',D∉S->D∉J.fp->YQ sc ak F aw az aa ρ ((dc D []).and (aa_ (.ref D))) (D::S) s'->wpAny (model XX w) A (execs aD aa) Q E s'):wpAny (model XX w) A (execs (.Assign [.Attribute (.Name z YA) name ap] (.List [] lp) ar::aD) aa) Q E s:=by
 refine YF (plainObj_wpAny_Assign_Attribute (hs:=gP aa f.cx.kind f.cx.names) (wpAny_List (wpAny_items_nil ⟨Nat.zero_le _,?_⟩)));have hn:s.heap.get? s.heap.objs.size=none:=get_none (Nat.le_refl _);have iy:(s.heap.push {cls:=.type "list",data:=.seq ([]:List Value).toArray}).get? s.heap.objs.size=some {cls:=.type "list",data:=.seq ([]:List Value).toArray}:=Heap.get?_push_size _ rfl;have f':=f.lay (s':={s with heap:=s.heap.push {cls:=.type "list",data:=.seq ([]:List Value).toArray}}) (D:=s.heap.objs.size) (K:=dc s.heap.objs.size []) ⟨_,_,rfl,λ ξ ξ e=>cN _ e⟩ hn ⟨_,iy⟩ (λ b m=>bj m) ⟨_,_,iy,trivial⟩;have e9:s.heap.objs.size∉S:=eO f.cx.b4 (Nat.le_refl _);have pU:s.heap.objs.size∉J.fp:=λ m=>e9 (f.aar _ m).1;refine Ac.use f'.cx λ u aA k₂ c₂ cG=>?_;rw [show u= .ref a from cG];have q3:a∉(dc s.heap.objs.size []).fp:=λ m=>pU (bj m▸(L .none).mem);exact wC (f'.keep k₂) ht hT hp hi (g7 (L (.ref s.heap.objs.size)) q3) fg λ s' le I5=>k _ s' e9 pU I5
def wF {GX:Array (Option Value)} (hd:a∉J.fp):jU ((p5 a dx sl).and J) ((p5 a dx GX).and J) a (p5 a dx sl).p (p5 a dx GX).p where
 mem:=bL _ (by simp [p5])
 fp:=λ b h=>h
 get:=λ q=>q.1
 set:=λ l1 l2 Yi k q y=>⟨y,J.st l1 l2 Yi (λ b hb o e=>k b o (λ z=>hd (z▸hb)) e) q.2⟩
def BK {x:Tx} (abx:cy 2 A) (T:er (hide S s.heap)) (fr:∀b∈S,∃o,s.heap.get? b=some o) (pv:(is x).p (hide S s.heap) v):wpAny (model XX w) A (call (.ref 82) [v] [])
  (λ v s'=>Keeps s s'/\∃a dx b,v= .ref a/\(∀c∈[a,dx,b],s.heap.get? c=none)/\[a,dx,b].Nodup/\jX s'.heap a dx b ⟨x,0,[]⟩) dj s:=by
 refine aM (bz.mp pv) λ tx c7=>?_;subst c7;obtain ⟨hh,aai,d,t,os⟩:=s;have X:(KK w.params).In hh:=T.k.keeps ao;refine wpAny_call (make_core (makes_of X Rp) (looks_findIn X (name:="__init__") (r:=some (.ref 78)) abl) (λ self=>bind_fn X self abl) (.inl rfl) ?_);dsimp only at T fr;generalize hx:hh.objs.size+1=a;generalize jQ:hh.objs.size=dx;have gp:hh.get? dx=none:=get_none (Nat.le_of_eq jQ);have n7:hh.get? a=none:=get_none (by rw [<-hx];exact Nat.le_succ _);have fg:a≠dx:=λ q=>by rw [<-hx,<-jQ] at q;exact Nat.succ_ne_self _ q
 generalize hH:(hh.push emptyDict).push (instObj 82 dx)=H;have k₁:XN hh H:=λ b o e=>by rw [<-hH];exact cN _ (cN _ e)
 have gd:H.get? dx=some emptyDict:=by rw [<-hH,<-jQ];exact cN _ (Heap.get?_push_size _ rfl)
 have Yy:H.get? a=some (rG dx #[]):=by rw [<-hH,<-hx];have:=Heap.get?_push_size (hh.push emptyDict) (o:=instObj 82 dx) rfl;rwa [Heap.size_push] at this
 have fresh:∀b∈[a,dx]++S,b∈S\/hh.get? b=none:=λ b hb=>by
  rcases bR hb with m|m
  ·exact .inr (uJ (p:=λ b=>hh.get? b=none) n7 gp b m)
  ·exact .inl m
 have T':er (hide ([a,dx]++S) H):=T.mono (dH k₁ fresh);have Ef:∀b∈[a,dx]++S,∃o,H.get? b=some o:=λ b hb=>by
  rcases bR hb with m|m
  ·exact uJ (p:=λ b=>∃o,H.get? b=some o) ⟨_,Yy⟩ ⟨_,gd⟩ b m
  ·refine aM (fr b m) λ o e=>?_;exact ⟨o,k₁ _ _ e⟩
 have I6:cy 1 (Ed A 82 [.str x.s tx] []):=rE abx;refine kY (s:=⟨H,aai,d,t,os⟩) (ρ:=[("self",lit (.ref a)),("node",is x)]) (J:=(p5 a dx #[]).and Y8) (F:=[a,dx]) (aw:=[a,dx]++S) (o:=QN) T' Ef (by have:=I6.depth;show (Ed A 82 [.str x.s tx] []).depth<1000;w_up) (ao _ _ (T'.k 78 _ abl)) rfl aaT ⟨77,QM,_,_,rfl,by rfl,rfl,rfl⟩ ["self","node"]
  (λ A Q E k=>pX (gZ:=lit (.ref a)) (aV:=is x) (λ a b=>by rfl) ([a,dx]++S) ⟨H,aai,d,t,os⟩ [.ref a,.str x.s tx] A Q E Ef ⟨rfl,bz.mpr ⟨_,rfl⟩,trivial⟩ λ b aj k₁ kZ=>k b aj k₁ (by rw [Zc.names kZ];rfl) kZ) abd abd ⟨⟨Yy,gd⟩,trivial⟩ (λ b m=>by have m:b∈[a,dx]:=m;exact ⟨bL _ m,m⟩) λ aa mD aA ξ ξ ξ f=>?_
 generalize Around.deeper _ aa=A' at*;refine Zh (E:=dj) ?_ dp eY;refine wD (aa_:=λ v=>(p5 a dx (jD #[] 0 v)).and Y8) f (P:=is x) af af RB abl NL bH fg.symm aR (λ v=>wF (λ m=>nomatch m)) λ kU aH aZ f=>?_;refine wD (aa_:=λ v=>(p5 a dx (jD (jD #[] 0 kU) 1 v)).and Y8) f (P:=is (0:Int)) bX af Jc abl yS bH fg.symm aR (λ v=>wF (λ m=>nomatch m)) λ FF bS cG f=>?_;refine uM (aa_:=λ v=>(p5 a dx (jD (jD (jD #[] 0 kU) 1 FF) 2 v)).and Y8) f af RC abl Jd bH fg.symm aR (λ v=>wF (λ m=>nomatch m)) λ b bY sx RD f=>?_;refine aM (bz.mp aZ) λ t1 ff=>?_;subst ff;refine aM (bD.mp cG) λ t2 fR=>?_;subst fR;have RE:b≠a:=λ q=>RD (by rw [q];exact bL _ (by simp [p5]));have RG:b≠dx:=λ q=>RD (by rw [q];exact bL _ (by simp [p5]));refine bf ⟨rfl,?_,a,dx,b,rfl,?_,by simp [fg,RE.symm,RG.symm],?_⟩
 ·refine cS f.aaH.same λ BG NJ eK=>?_;subst eK;refine d8 _ _ rfl (λ b o e=>f.aaH.keep b o (λ m=>?_) (k₁ b o e));rw [uJ (p:=λ b=>hh.get? b=none) n7 gp b m] at e;cases e
 ·intro c hc;rcases cF hc with rfl|hc
  ·exact n7
  ·rcases cF hc with rfl|hc
   ·exact gp
   ·rw [bj hc];rcases (f.aar b (bL _ (List.mem_singleton.mpr rfl))).2.2.2 with q|q
    ·rcases cF q with q|q
     ·exact absurd q RE
     ·exact absurd (bj q) RG
    ·cases e:hh.get? b with
     |none=>rfl
     |some o=>have:=k₁ _ _ e;rw [this] at q;cases q
 ·refine eU f.jp λ eL sd ξ=>?_;refine bu eL λ vs n e1 e2=>?_;refine cO sd λ g1 g2=>?_;rw [LI] at g1;refine ⟨⟨t1,t2,g1⟩,g2,vs,n,e1,eH.mpr e2⟩
end
structure Ent where
 nd:abp
 a:Addr
 dx:Addr
 b:Addr
noncomputable def Ent.tO (e:Ent):List Addr:=[e.a,e.dx,e.b]
variable {τ:bQ}
structure bQ where
 D:Addr
 aaX:Addr
 N:Addr
 R:Option Addr
 es:List Ent
 bG:List Tx
 out:Int
 fin:Int
noncomputable instance:Nonempty bQ:=⟨⟨0,0,0,none,[],[],0,0⟩⟩
noncomputable def bQ.base (σ:bQ):List Addr:=σ.D::σ.aaX::σ.N::σ.R.toList
def bQ.all (σ:bQ):List Addr:=σ.base++σ.es.flatMap Ent.tO
noncomputable def l0:List Str:=["_node2info","_ready_nodes","_npassedout","_nfinished"]
noncomputable def q4:Option Addr->Value
 |none=>.none
 |some R=>.ref R
def bQ.Zm {σ:bQ}:σ.D∈σ.base:=List.mem_cons_self
def bQ.Z3 {σ:bQ}:σ.aaX∈σ.base:=Ym _ List.mem_cons_self
def bQ.mN {σ:bQ}:σ.N∈σ.base:=Ym _ (Ym _ List.mem_cons_self)
def bQ.XB {σ:bQ} {R:Addr} (h:σ.R=some R):R∈σ.base:=by show R∈σ.D::σ.aaX::σ.N::σ.R.toList;rw [h];exact Ym _ (Ym _ (Ym _ List.mem_cons_self))
def bQ.RH {σ:bQ} (q:b=σ.D\/b=σ.aaX):b∈σ.base:=q.elim (λ e=>e▸bQ.Zm) λ e=>e▸bQ.Z3
def Ent.mA {e:Ent}:e.a∈e.tO:=List.mem_cons_self
def Ent.mB {e:Ent}:e.b∈e.tO:=Ym _ (Ym _ List.mem_cons_self)
def cW {σ:bQ} {c:Addr} (h:c∈σ.base):c∈σ.all:=bL _ h
def gH {σ:bQ} {e:Ent} {c:Addr} (he:e∈σ.es) (h:c∈e.tO):c∈σ.all:=bC _ (List.mem_flatMap.mpr ⟨e,he,h⟩)
structure Af (h:Heap) (σ:bQ) (m:Str->Option Value) (t1 t2:Tok):Prop where
 inst:jC h 179 σ.D σ.aaX m
 Xz:Within m l0
 Ag:m "_node2info"=some (.ref σ.N)
 YV:m "_ready_nodes"=some (q4 σ.R)
 po:m "_npassedout"=some (.int σ.out t1)
 YK:m "_nfinished"=some (.int σ.fin t2)
structure ck (σ:bQ) (h:Heap):Prop where
 qT:σ.base.Nodup
 mQ:∀e∈σ.es,e.tO.Nodup/\∀c∈e.tO,c∉σ.base
 sF:∀e∈σ.es,∀e'∈σ.es,∀c,c∈e.tO->c∈e'.tO->e.nd.node=e'.nd.node
 nn:(σ.es.map λ e=>e.nd.node).Nodup
 inst:∃m t1 t2,Af h σ m t1 t2
 sys:(σ.N==sysModules)=false
 dict:h.DictOf (abh) σ.N (σ.es.map λ e=>(e.nd.node.s,Value.ref e.a))
 info:∀e∈σ.es,jX h e.a e.dx e.b e.nd
 bG:∀R,σ.R=some R->∃vs n,IsL h R vs n/\ia σ.bG vs.toList
def yb {β:Type} {f:α->β}:∀{l:List α},(l.map f).Nodup->∀x∈l,∀y∈l,f x=f y->x=y:=by
 intro l;induction l with
 |nil=>intros;contradiction
 |cons a l ih=>
  intro hn x hx y hy e;rw [List.map_cons,List.nodup_cons] at hn;rcases cF hx with e1|RI
  ·rcases cF hy with e2|OQ
   ·rw [e1,e2]
   ·rw [e1] at e;exact absurd (List.mem_map.mpr ⟨y,OQ,e.symm⟩) hn.1
  ·rcases cF hy with e2|OQ
   ·rw [e2] at e;exact absurd (List.mem_map.mpr ⟨x,RI,e⟩) hn.1
   ·exact ih hn.2 x RI y OQ e
section
variable {σ σ':bQ}
def ck.gV (x:ck σ h) (k:∀b∈σ.all,∀o,h.get? b=some o->h'.get? b=some o):ck σ h' where
 qT:=x.qT
 mQ:=x.mQ
 sF:=x.sF
 nn:=x.nn
 inst:=let ⟨m,t1,t2,i⟩:=x.inst;⟨m,t1,t2,i.inst.keeps λ b o q e=>k b (cW (bQ.RH q)) o e,i.Xz,i.Ag,i.YV,i.po,i.YK⟩
 sys:=x.sys
 dict:=x.dict.at λ o e=>k _ (cW bQ.mN) o e
 info:=λ e he=>(x.info e he).keeps λ c hc o q=>k c (gH he hc) o q
 bG:=λ R hR=>let ⟨vs,n,e,q⟩:=x.bG R hR;⟨vs,n,k R (cW (bQ.XB hR)) _ e,q⟩
def b8 (σ:bQ):XW:=⟨σ.all,λ ξ h=>ck σ h,λ ξ ξ ξ k x=>x.gV k⟩
def ck.ent (x:ck σ h) {e e':Ent} (he:e∈σ.es) (nQ:e'∈σ.es) (q:e.nd.node=e'.nd.node):e=e':=yb x.nn e he e' nQ q
noncomputable def bQ.cz (σ:bQ) (x:Tx) (g:abp->abp):bQ:={σ with es:=σ.es.map λ e=>if e.nd.node=x then {e with nd:=g e.nd} else e}
def l3 {x:Tx} {g:abp->abp} (hg:∀n,(g n).node=n.node) {e':Ent} (h:e'∈(σ.cz x g).es):∃e∈σ.es,e'.tO=e.tO/\e'.nd.node=e.nd.node/\e'.nd=(if e.nd.node=x then g e.nd else e.nd)/\e'.a=e.a/\e'.dx=e.dx/\e'.b=e.b:=by
 refine aK (abQ h) λ e he cX=>?_;subst cX;refine cV e he ?_;by_cases q:e.nd.node=x
 ·simp only [if_pos q];exact rY rfl (hg _) trivial trivial trivial trivial
 ·simp only [if_neg q];exact rY trivial trivial trivial trivial trivial trivial
def p6 {x:Tx} {g:abp->abp} (hg:∀n,(g n).node=n.node) {β:Type} (f:Tx->Addr->β):(σ.cz x g).es.map (λ e=>f e.nd.node e.a)=σ.es.map λ e=>f e.nd.node e.a:=by
 show (σ.es.map _).map _=_;rw [List.map_map];refine List.map_congr_left λ e ξ=>?_;by_cases q:e.nd.node=x
 ·simp only [Function.comp,if_pos q,hg]
 ·simp only [Function.comp,if_neg q]
def jf {x:Tx} {g:abp->abp}:(σ.cz x g).all=σ.all:=by
 show σ.base++(σ.es.map _).flatMap _=_;unfold bQ.all;congr 1;induction σ.es with
 |nil=>rfl
 |cons e l ih=>
  rw [List.map_cons,List.flatMap_cons,List.flatMap_cons,ih];congr 1;split<;>rfl
def ck.cz {x:Tx} {g:abp->abp} (X:ck σ h) (hg:∀n,(g n).node=n.node) {e:Ent} (he:e∈σ.es) (hx:e.nd.node=x) {c:Addr} (hc:c∈e.tO) (hs:Heap.SameBut c h h') (hn:jX h' e.a e.dx e.b (g e.nd)):ck (σ.cz x g) h':=by
 have nb:c∉σ.base:=(X.mQ e he).2 c hc;have aaH:∀b∈σ.base,∀o,h.get? b=some o->h'.get? b=some o:=λ b hb o q=>(hs.2 b λ z=>nb (z▸hb)).trans q;exact {
  qT:=X.qT
  mQ:=λ e' nQ=>by refine cZ (l3 hg nQ) λ iM h0 h1 ξ=>?_;rw [h1];exact X.mQ iM h0
  sF:=λ e' nQ Xj RJ d hd lS=>by refine rW (l3 hg nQ) λ iM h0 h1 h2 ξ=>?_;refine rW (l3 hg RJ) λ i9 g0 g1 g2 ξ=>?_;rw [h1] at hd;rw [g1] at lS;rw [h2,g2];exact X.sF iM h0 i9 g0 d hd lS
  nn:=by rw [p6 hg λ n ξ=>n];exact X.nn
  inst:=let ⟨m,t1,t2,i⟩:=X.inst;⟨m,t1,t2,i.inst.keeps λ b o q e=>aaH b (bQ.RH q) o e,i.Xz,i.Ag,i.YV,i.po,i.YK⟩
  sys:=X.sys
  dict:=by rw [p6 hg λ n a=>(n.s,Value.ref a)];exact X.dict.at λ o e=>aaH _ bQ.mN o e
  info:=λ e' nQ=>by
   obtain ⟨iM,h0,h1,h2,h3,h4,h5,h6⟩:=l3 hg nQ;rw [h3,h4,h5,h6];by_cases q:iM.nd.node=x
   ·have:iM=e:=X.ent h0 he (q.trans hx.symm);subst this;rw [if_pos q];exact hn
   ·rw [if_neg q];refine (X.info iM h0).keeps λ d hd o z=>(hs.2 d λ r=>q ?_).trans z;rw [<-hx];exact X.sF iM h0 e he d hd (r▸hc)
  bG:=λ R hR=>let ⟨vs,n,e,q⟩:=X.bG R hR;⟨vs,n,aaH R (bQ.XB hR) _ e,q⟩}
def ck.FI {R:Addr} {xs:List Tx} (X:ck σ h) (hR:σ.R=some R) (hs:Heap.SameBut R h h') {vs:Array Value} (hl:IsL h' R vs n) (ht:ia xs vs.toList):ck {σ with bG:=xs} h':=by
 have Ve:R∈σ.base:=bQ.XB hR;have fg:R≠σ.D/\R≠σ.aaX/\R≠σ.N:=by have:=X.qT;simp only [bQ.base,hR,Option.toList,List.nodup_cons,List.mem_cons,not_or,List.not_mem_nil] at this;exact iJ (λ q=>this.1.2.2.1 q.symm) (λ q=>this.2.1.2.1 q.symm) (λ q=>this.2.2.1.1 q.symm)
 exact {
  qT:=X.qT
  mQ:=X.mQ
  sF:=X.sF
  nn:=X.nn
  inst:=let ⟨m,t1,t2,i⟩:=X.inst;⟨m,t1,t2,i.inst.keeps (λ b o q e=>(hs.2 b λ z=>by rcases q with q|q<;>rw [q] at z;exact fg.1 z.symm;exact fg.2.1 z.symm).trans e),i.Xz,i.Ag,i.YV,i.po,i.YK⟩
  sys:=X.sys
  dict:=X.dict.at λ o e=>(hs.2 _ λ q=>fg.2.2 q.symm).trans e
  info:=λ e he=>(X.info e he).keeps λ c hc o q=>(hs.2 c λ z=>(X.mQ e he).2 c hc (z▸Ve)).trans q
  bG:=λ R' qU=>by have qU:σ.R=some R':=qU;rw [hR] at qU;cases qU;exact ⟨vs,n,hl,ht⟩}
def ck.attr (X:ck σ h) (hs:Heap.SameBut σ.aaX h h') {t1 t2:Tok} {out fin:Int} (hi:Af h' {σ with out:=out,fin:=fin} m t1 t2):ck {σ with out:=out,fin:=fin} h':=by
 have OR:σ.aaX∈σ.base:=bQ.Z3;have hB:=X.qT;simp only [bQ.base,List.nodup_cons,List.mem_cons,not_or] at hB;exact {
  qT:=X.qT
  mQ:=X.mQ
  sF:=X.sF
  nn:=X.nn
  inst:=⟨m,t1,t2,hi⟩
  sys:=X.sys
  dict:=X.dict.at λ o e=>(hs.2 _ λ q=>hB.2.1.1 q.symm).trans e
  info:=λ e he=>(X.info e he).keeps λ c hc o q=>(hs.2 c λ z=>(X.mQ e he).2 c hc (z▸OR)).trans q
  bG:=λ R hR=>by have qU:σ.R=some R:=hR;refine bu (X.bG R hR) λ vs n e q=>?_;refine d8 vs n ((hs.2 R λ z=>hB.2.1.2 ?_).trans e) q;rw [qU,<-z];simp}
end
variable {σ σ':bQ} {en:Ent}
def yT (P:YJ):Prop:=∀{g g':Heap} {v:Value},P.p g v->P.p g' v
def tP:yT (lit v):=λ p=>p
def yU {i:Int}:yT (is i):=λ p=>bD.mpr (bD.mp p)
def wG {b:Bool}:yT (is b):=λ p=>is_bool.mpr (is_bool.mp p)
def mE {x:Tx}:yT (is x):=λ p=>bz.mpr (bz.mp p)
def wH {u:Unit}:yT (is u):=λ p=>fe.mpr (fe.mp p)
noncomputable def iI (S L:List Addr):List Addr:=S.filter λ b=>!L.contains b
def rI {L:List Addr}:∀b∈iI S L,b∈S:=λ b m=>(aa7 m).1
def Eg {L:List Addr} (h:b∈L):b∉iI S L:=λ m=>by have:=(aa7 m).2;simp at this;exact this h
def kr {L:List Addr} {o:Obj} (h1:b∈L) (e:h.get? b=some o):(hide (iI S L) h).get? b=some o:=by rw [bI,if_neg (Eg h1)];exact e
def YQ.open (f:YQ sc ak F aw az aa ρ J S s) (L:List Addr):XK sc ρ (iI S L) aa s.heap:=f.cx.less rI
def XK.word (c:XK sc ρ S aa h) (hz:ρ.lookup z=some (lit v)) (hw:W.p (hide S h) v):XK sc ((z,W)::ρ) S aa h:=by
 refine ⟨c.names,c.kind,c.glob,c.bi,λ n P e=>?_,c.b4,c.top⟩;rw [List.lookup_cons] at e;by_cases q:n=z
 ·subst q;rw [beq_self_eq_true] at e;cases e;have x:=c.vars n _ hz;exact x.map (λ m u a b d=>bW m u a b ((show u=v from d)▸hw)) λ ξ c u a b d=>bW c u a b ((show u=v from d)▸hw)
 ·rw [beq_eq_false_iff_ne.mpr q] at e;exact c.vars n P e
def ku (f:YQ sc ak F aw az aa ρ J S s) (c:XK sc gy S' aa s.heap) (he:Ev A sc gy e P) (hP:yT P) (hx:cw ak sc z=true) (hs:∀aa:Env,aa.scope.kind= .function->aa.scope.names=sc->swapsWith e (some (.Name z YA)) ar.line aa=pure false)
  (k:∀s',YQ sc ak F aw az aa ((z,P)::ρ) J S s'->wpAny (model XX w) A (execs aD aa) Q E s'):wpAny (model XX w) A (execs (.Assign [.Name z YA] e ar::aD) aa) Q E s:=
 YF (wpAny_Assign_Name (hs:=hs aa f.cx.kind f.cx.names) (he.use c λ v aj k₁ c₁ aZ=>(f.keep k₁).store hx (hP aZ) k))
noncomputable def gI (σ:bQ):YJ:=⟨λ h v=>v= .ref σ.D/\ck σ h,λ k ⟨e,x⟩=>⟨e,x.gV λ b ξ o q=>k b o q⟩⟩
def fa (f:YQ sc ak F aw az aa ρ J S s) (hz:ρ.lookup z=some (lit (.ref σ.D))) (hj:ck σ s.heap):XK sc ((z,gI σ)::ρ) (iI S σ.all) aa s.heap:=
 (f.open σ.all).word hz ⟨rfl,hj.gV λ b m o e=>kr m e⟩
def qG {v:Heap->Value->Prop} (hz:Ev A sc ρ (.Name z YA) (gI σ)) (ha:findIn (KK w.params) (.ref 179) name=some none)
  (hv:∀h m t1 t2,Af h σ m t1 t2->∃u,m name=some u/\handedIn u=true/\∀h,P.p h u):Ev A sc ρ (.Attribute (.Name z YA) name ar) P:=λ S aa s c=>
 Attribute_name (hz.use c λ u aj k₁ c₁ aZ=>by refine cO aZ λ dI X=>?_;subst dI;refine jj X.inst λ m t1 t2 I=>?_;refine cZ (hv _ _ _ _ I) λ u h1 h2 h3=>?_;exact ko jV (c₁.top.k.keeps ao) (I.inst.keeps λ b o ξ e=>ao _ _ e) ha abl h1 h2 ⟨aL k₁ (dG _ _),h3 _⟩)
def Ah (hz:Ev A sc ρ (.Name z YA) (gI σ)):Ev A sc ρ (.Attribute (.Name z YA) "_node2info" ar) (lit (.ref σ.N)):=
 qG (v:=λ ξ ξ=>True) hz abl λ h m t1 t2 I=>eX _ I.Ag rfl (λ ξ=>rfl)
def p7 (hz:Ev A sc ρ (.Name z YA) (gI σ)):Ev A sc ρ (.Attribute (.Name z YA) "_ready_nodes" ar) (lit (q4 σ.R)):=
 qG (v:=λ ξ ξ=>True) hz abl λ h m t1 t2 I=>eX _ I.YV (by cases σ.R<;>rfl) (λ ξ=>rfl)
def OS (hz:Ev A sc ρ (.Name z YA) (gI σ)):Ev A sc ρ (.Attribute (.Name z YA) "_npassedout" ar) (is σ.out):=
 qG (v:=λ ξ ξ=>True) hz abl λ h m t1 t2 I=>eX _ I.po rfl (λ ξ=>bD.mpr ⟨_,rfl⟩)
def OT (hz:Ev A sc ρ (.Name z YA) (gI σ)):Ev A sc ρ (.Attribute (.Name z YA) "_nfinished" ar) (is σ.fin):=
 qG (v:=λ ξ ξ=>True) hz abl λ h m t1 t2 I=>eX _ I.YK rfl (λ ξ=>bD.mpr ⟨_,rfl⟩)
def FJ {R:Addr} (hR:σ.R=some R) (hz:Ev A sc ρ (.Name z YA) (gI σ)):Ev A sc ρ (.Attribute (.Name z YA) "_ready_nodes" ar) (is σ.bG):=λ S aa s c=>
 Attribute_name (hz.use c λ u aj k₁ c₁ aZ=>by refine cO aZ λ eK X=>?_;subst eK;refine jj X.inst λ m t1 t2 I=>?_;have hr:=I.YV;rw [hR] at hr;refine bu (X.bG R hR) λ vs n aaS tl=>?_;exact ko (attr:=none) jV (c₁.top.k.keeps ao) (I.inst.keeps λ b o ξ e=>ao _ _ e) abl abl hr abl ⟨aL k₁ (dG _ _),is_list.mpr ⟨R,vs,n,rfl,aaS,eH.mp tl⟩⟩)
def mZ (hp:plainIs v .none=true):fm A (compareOp .Is) (lit v) (is ()) (is (v== .none)):=λ S s a b ξ ξ p q=>by rw [show a=v from p,fe.mp q];exact wpAny_is_plain hp ⟨cB _,is_bool.mpr rfl⟩
def p8 (x:Addr) (items:Array Value) (n:Nat) (hz:items.size<=sizeLine):
  Meets (Builtin.«bool.__new__» ⟨[.type "bool",.ref x],[]⟩) (λ A R s=>IsL s.heap x items n/\∀t,R (.ok (.ret (.bool (!items.isEmpty)))) {s with toks:=t}):=
 Meets.of_wp λ prog w A R s h=>by
  obtain ⟨hh,g,d,t,os⟩:=s;refine cO h λ hl h=>?_;have:=br;have f1:=PySem.F.conv_sub_bool;have tr:∀{A E} {Q:Bool->Shared->Prop},(∀t,Q (!items.isEmpty) ⟨hh,g,d,t,os⟩)->wpAny (model prog w) A (truthy (.ref x)) Q E ⟨hh,g,d,t,os⟩:=λ q=>wpAny_truthy_list ⟨_,hl,rfl,_,rfl⟩ (by w_up) (q _);repeat (any_goals (first|assumption|(with_reducible refine tr ?_)|wp_step))
  intro t;exact X5 ⟨_,rfl,h _⟩
def yc {xs:List Tx} (hz:xs.length<=sizeLine):fJ A (.type "bool") [is xs] (is (!xs.isEmpty)):=λ S s vs T fr p=>by refine aK p.one λ v d6 pv=>?_;subst d6;refine bw (is_list.mp pv) λ a vs n dI aaS al=>?_;subst dI;have e1:=al.length;rw [Array.length_toList,lm] at e1;refine call_bool_1 (p8 a vs n (by w_up)) ?_;refine ⟨ao _ _ aaS,λ t=>⟨rfl,?_⟩⟩;refine ⟨dG _ _,is_bool.mpr ?_⟩;congr 1;unfold Array.isEmpty;rw [e1];cases xs<;>simp
def LJ (A:Around) (f:Addr) (σ σ':bQ) (YN:List YJ) (P:YJ):Prop:=wu A (.ref f) (lit (.ref σ.D)::YN) (b8 σ) (b8 σ') P
def XK.but {E:List Addr} (c:XK sc ρ S aa s.heap) (aaH:abO E s s') (hE:∀b∈E,b∈S) (h1:aa.locals∉E) (h2:∀n P,ρ.lookup n=some P->(aa.kindOf n=some .cell\/aa.kindOf n=some .free)->∀b,aa.cells.lookup n=some b->b∉E):XK sc ρ S aa s'.heap:=by have DB:abO S s s':=aaH.more hE;refine XK.aaH c DB λ n P e x=>?_;have nG:=h2 n P e;exact x.map (λ m v z q d=>cY z λ o es ep a r=>bW m v ⟨o,es,ep,aaH.keep _ _ h1 a,r⟩ q (P.mono DB.le d)) λ hk c v a z d=>aK z λ o q r=>bW c v a ⟨o,aaH.keep _ _ (nG hk _ a) q,r⟩ (P.mono DB.le d)
def XK.yV (c:XK sc ρ S aa s.heap) {n:Str} (e:ρ.lookup n=some P) {k:NameKind} (hk:aa.kindOf n=some k) (dE:k= .cell\/k= .free) (hb:aa.cells.lookup n=some b):∃o,s.heap.get? b=some o:=by
 have x:=c.vars n P e;unfold et at x;rw [hk] at x;rcases dE with rfl|rfl
 ·refine bU x λ cc v a dI d=>?_;refine aK dI λ o q r=>?_;rw [hb] at a;cases a;exact ⟨o,q⟩
 ·refine bU x λ cc v a ff d=>?_;refine aK ff λ o q r=>?_;rw [hb] at a;cases a;exact ⟨o,q⟩
def BL {ai:List κ} {abL:κ->YJ} {β:κ->eV} {p:κ->Bool} {cJ:Sem Unit} {Acc:Nat->Heap->Obj->Prop} {Z6:Obj} {d:Nat} {cenv:Env}
  (hs:jP A sc ρ aG ai abL Ok) (iG:∀x,foldedSetIterable aG cenv x=pure x) (g8:Ok aN)
  (ht:∀a∈ai,jn A sc ak aN (abL a) (β a))
  (ng:∀a∈ai,lM A sc (β a++ρ) bA (p a))
  (gz:∀a∈ai,∀n P,ρ.lookup n=some P->(β a++ρ).lookup n=some P)
  (mj:∀{i g g' o},XN g g'->Acc i g o->Acc i g' o) (Dv:∀i (hi:i<ai.length) g o,p ai[i]=false->Acc i g o->Acc (i+1) g o)
  (Dw:∀i (hi:i<ai.length),p ai[i]=true->∀S' (s:Shared) o,XK sc (β ai[i]++ρ) S' cenv s.heap->D∈S'->s.heap.get? D=some o->Acc i (hide S' s.heap) o->
   wpAny (model XX w) A cJ (λ ξ s'=>∃o',s'.heap.get? D=some o'/\Acc (i+1) (hide S' s'.heap) o'/\abO [D] s s') dj s)
  (Dx:∀it,r7 e d it (.ref D) cenv aN aG.pos bA cJ)
  (Bg:∀it,(model XX w).den (.compLoop e d it (.ref D) cenv)=(compTurn e d it (.ref D) cenv).onRaise (λ x=>do noteFrame x cenv;theTreesLotGoes x))
  (H7:∀it,A.under (.compLoop e d it (.ref D) cenv)=A) (Oe:∀it,(Code.compLoop e d it (.ref D) cenv).quiet=true)
  (zH:∀it R (s:Shared),codeAny (model XX w) A (.compLoop e d it (.ref D) cenv) R s->wpAny (model XX w) A (pyIter it) (λ se s'=>codeAny (model XX w) A (.compLoop e d se (.ref D) cenv) R s') (notedBy (model XX w) A cenv λ x s'=>R (.error x) s') s->codeAny (model XX w) A (.compStart e d it (.ref D) cenv) R s)
  (c:XK sc ρ S cenv s.heap) (Zt:iV ak S cenv s.heap) (e9:D∈S) (Je:D≠cenv.locals) (OU:∀n,cenv.cells.lookup n≠some D) (Vf:∀n∈ak,cenv.kindOf n=some .cell)
  (hD:s.heap.get? D=some Z6) (ha:Acc 0 (hide S s.heap) Z6):
  oh A ak D (Acc ai.length) S cenv s (do
   let x<-eval aG cenv
   standAt aG.pos
   let x<-foldedSetIterable aG cenv x
   let _<-runOwn (.compStart e d (<-holding [x] (pyIter x)) (.ref D) cenv) cenv):=by
 unfold oh;refine Z4 (Zh (hs S cenv s c) (λ xv aaq q=>?_) dp);refine cZ q λ aj k₁ kx q=>?_;refine Z4 (ig (Z4 ?_));rw [iG];refine X5 (Z4 (XG (Zh q (λ it aA q=>?_) dp)));refine jH q λ k₂ I fp wr St eK W o6 kX=>?_;subst eK;replace k₂:=aL kx k₂;have iA:Keeps s aA:=aL k₁ k₂;have Yr:∀b∈wr,s.heap.get? b=none:=λ b m=>by
  cases q:s.heap.get? b with
  |none=>rfl
  |some o=>have:=W.new b m;rw [kle k₁ _ _ q] at this;cases this
 have Zq:∀b∈fp,b∉S:=W.out;have Jf:∀b∈wr,b∉S:=λ b m=>Zq b (W.sub b m);have lw:∀b o,s.heap.get? b=some o->b∉wr:=λ b o q m=>by rw [Yr b m] at q;cases q
 have aaZ:∀n∈ak,∀b,cenv.cells.lookup n=some b->b∈S:=λ n hn b q=>by refine bU (Zt.gb n hn (Vf n hn)) λ cc v a b' ξ=>?_;rw [q] at a;cases a;exact b'
 have aag:∀b∈S,b∈wr++S:=λ b m=>bC _ m;have sw:∀b∈wr,b∈wr++S:=λ b m=>bL _ m;have Jg:cenv.locals∉wr:=λ m=>Jf _ m Zt.loc;have Vg:∀n P,ρ.lookup n=some P->(cenv.kindOf n=some .cell\/cenv.kindOf n=some .free)->∀b,cenv.cells.lookup n=some b->b∉wr:=λ n P q hk b hb=>by
  rcases hk with hk|hk
  ·refine aM (c.yV q hk (.inl rfl) hb) λ o e=>?_;exact lw b o e
  ·refine aM (c.yV q hk (.inr rfl) hb) λ o e=>?_;exact lw b o e
 let aD:Shared->Prop:=λ s'=>∀b o,b≠D->b≠cenv.locals->(∀n∈ak,cenv.cells.lookup n≠some b)->s.heap.get? b=some o->s'.heap.get? b=some o
 let J:Nat->Shared->Prop:=λ i s'=>abO S s s'/\XK sc ρ (wr++S) cenv s'.heap/\iV ak (wr++S) cenv s'.heap/\St i s'.heap/\XN (hide S aj.heap) (hide (wr++S) s'.heap)/\aD s'/\∃o,s'.heap.get? D=some o/\Acc i (hide (wr++S) s'.heap) o
 have RK:∀{s':Shared} {h':Heap} {tk:Nat},abO S s s'->(∀b o,b∉wr->s'.heap.get? b=some o->h'.get? b=some o)->abO S s {s' with heap:=h',toks:=tk}:=λ {s' h' tk} aaH bq=>by refine cS aaH.same λ hh tt e=>?_;refine ⟨⟨h',tk,by rw [e]⟩,λ b o n q=>bq b o (lw b o q) (aaH.keep b o n q),λ b o q=>?_⟩;refine aM (aaH.live b o q) λ o' q'=>?_;exact ⟨o',bq b o' (lw b o q) q'⟩
 refine Z4 (wpAny_runOwn ?_);refine codeAny_mono (R:=λ r s'=>r= .ok .next/\∃o',s'.heap.get? D=some o'/\Acc ai.length (hide S s'.heap) o'/\abO S s s'/\iV ak S cenv s'.heap/\aD s') ?_ λ r s' hr=>?_
 ·have loop:codeAny (model XX w) A (.compLoop e d (.ref I) (.ref D) cenv) (λ r s'=>r= .ok .next/\∃o',s'.heap.get? D=some o'/\Acc ai.length (hide S s'.heap) o'/\abO S s s'/\iV ak S cenv s'.heap/\aD s') aA:=by
   have tQ:iV ak S cenv aA.heap:=Zt.le (kle iA);refine rm (n:=ai.length) (aN:=aN) (ipos:=aG.pos) (bA:=bA) (cJ:=cJ) (Dx _) J ?_ ?_ ⟨abO.of iA,?_,?_,o6,?_,λ b o ξ ξ ξ q=>kle iA _ _ q,Z6,kle iA _ _ hD,?_⟩ (H7 _) (Oe _) (Bg _)
   ·rintro i s' hi ⟨aaH,cx,abR,vB,oB,rs,X8,OV,OW⟩;refine W.turn i hi aN g8 s' (wr++S) _ vB oB sw cx.b4 λ v h' tk hv ip dE=>?_;have uG:ai[i]∈ai:=List.getElem_mem hi;have nh:abO wr s' {s' with heap:=h',toks:=tk}:=⟨⟨_,_,rfl⟩,λ b o n q=>dE b o n q,λ b o q=>by
     by_cases m:b∈wr
     ·exact W.live _ _ ip b m
     ·exact ⟨o,dE b o m q⟩⟩
    have OX:XK sc ρ (wr++S) cenv h':=cx.but (s':={s' with heap:=h',toks:=tk}) nh sw Jg Vg;have OY:iV ak (wr++S) cenv h':=abR.keep (λ o q=>dE _ o Jg q) λ n hn cc q o q'=>dE _ o (λ m=>Jf _ m (aaZ n hn cc q)) q';refine ht _ uG ρ (wr++S) cenv _ v _ _ OX OY hv λ bY h9 pK yE iu=>?_;have tn:St (i+1) bY.heap:=W.frame _ _ _ ip λ b hb o q=>iu b o (λ z=>Zq b hb (z▸Zt.loc)) (λ n hn z=>Zq b hb (aaZ n hn b z)) q;have Jh:∀n∈ak,cenv.cells.lookup n≠some D:=λ n ξ=>OU n;have Vh:D∉wr:=λ m=>Jf D m e9;have vD:bY.heap.get? D=some X8:=iu D _ Je Jh (dE D _ Vh OV);have Ai:XN (hide (wr++S) s'.heap) (hide (wr++S) bY.heap):=(nh.more sw).le.trans h9.le;have kb:Acc i (hide (wr++S) bY.heap) X8:=mj Ai OW;have OZ:aD bY:=λ b o n1 n2 ZV q=>iu b o n2 ZV (dE b o (lw b o q) (rs b o n1 n2 ZV q));have LK:abO S s bY:=by
     have O0:abO S s {s' with heap:=h',toks:=tk}:=RK aaH dE;refine cS O0.same λ hh tt e1=>?_;refine cS h9.same λ k6 FL e5=>?_;refine ⟨⟨k6,FL,by rw [e5,e1]⟩,λ b o n q=>?_,λ b o q=>let ⟨o',z⟩:=O0.live b o q;h9.live b o' z⟩;refine h9.keep b o (λ m=>?_) (O0.keep b o n q);rcases bR m with m|m
     ·exact lw b o q m
     ·exact n m
    refine Zh (ng _ uG (wr++S) cenv bY pK) (λ UG dK q=>?_) dp;refine cO q λ fz gN=>?_;subst gN;have FN:abO S s dK:=LK.trans (abO.of fz);have pY:=pK.mono (kle fz);have RL:XK sc ρ (wr++S) cenv dK.heap:=pY.sub (gz _ uG);have NM:iV ak (wr++S) cenv dK.heap:=yE.le (kle fz);have Ji:St (i+1) dK.heap:=W.frame _ _ _ tn λ b ξ o q=>kle fz _ _ q;have Jj:XN (hide S aj.heap) (hide (wr++S) dK.heap):=(oB.trans Ai).trans (aJ (kle fz));have oZ:Acc i (hide (wr++S) dK.heap) X8:=mj (aJ (kle fz)) kb;have Jk:aD dK:=λ b o n1 n2 ZV q=>kle fz _ _ (OZ b o n1 n2 ZV q);cases hp:p ai[i] with
    |false=>
     exact ⟨FN,RL,NM,Ji,Jj,Jk,X8,kle fz _ _ vD,Dv i hi _ _ hp oZ⟩
    |true=>
     rw [if_pos rfl];refine Zh (Dw i hi hp (wr++S) dK X8 pY (aag D e9) (kle fz _ _ vD) oZ) (λ ξ mS q=>?_) dp;refine cZ q λ Ic Ie vE iH=>?_;have n1:∀b,b≠D->b∉[D]:=λ b h m=>h (bj m);refine ⟨FN.trans (iH.more λ b m=>(bj m)▸e9),?_,?_,?_,?_,λ b o RM n2 ZV q=>iH.keep b o (n1 b RM) (Jk b o RM n2 ZV q),Ic,Ie,vE⟩
     ·exact RL.but iH (λ b m=>(bj m)▸aag D e9) (n1 _ (Ne.symm Je)) λ n P ξ ξ b hb=>n1 b λ z=>OU n (z▸hb)
     ·exact NM.keep (λ o q=>iH.keep _ o (n1 _ (Ne.symm Je)) q) λ n hn cc q o q'=>iH.keep _ o (n1 _ λ z=>OU n (z▸q)) q'
     ·exact W.frame _ _ _ Ji λ b hb o q=>iH.keep b o (n1 b λ z=>Zq b hb (z▸e9)) q
     ·exact Jj.trans (iH.more λ b m=>(bj m)▸aag D e9).le
   ·rintro s' ⟨aaH,cx,abR,vB,oB,rs,X8,OV,OW⟩;refine W.done s' _ _ vB λ h' tk dE=>⟨rfl,rfl,X8,dE D _ (λ m=>Jf D m e9) OV,?_,RK aaH dE,?_,λ b o n1 n2 ZV q=>dE b o (lw b o q) (rs b o n1 n2 ZV q)⟩
    ·refine mj ?_ OW;exact (b5 (S:=wr++S) λ b o n q=>dE b o (λ m=>n (sw b m)) q).trans (cT aag)
    ·refine ⟨Zt.loc,?_,λ n hn hk=>?_,Zt.inj⟩
     ·refine rX abR.ns λ m o es ep q r=>?_;exact pn m o es ep (dE _ _ Jg q) r
     ·refine jR (abR.gb n hn hk) λ cc v a b l6 dd=>?_;refine aK l6 λ o q r=>?_;exact jl cc v a (aaZ n hn cc a) ⟨o,dE _ _ (λ m=>Jf _ m (aaZ n hn cc a)) q,r⟩ dd
   ·refine (c.mono (kle k₁)).grow (kle k₂) (λ b hb=>?_) λ b hb=>?_
    ·rcases bR hb with m|m
     ·exact .inr (W.new b m)
     ·exact .inl m
    ·rcases bR hb with m|m
     ·exact W.live 0 _ o6 b m
     ·refine aM (c.b4 b m) λ o q=>?_;exact ⟨o,kle iA _ _ q⟩
   ·exact ⟨aag _ tQ.loc,tQ.ns,λ n hn hk=>let ⟨cc,v,a,b,q⟩:=tQ.gb n hn hk;⟨cc,v,a,aag _ b,q⟩,tQ.inj⟩
   ·exact dH (kle k₂) λ b hb=>by
     rcases bR hb with m|m
     ·exact .inr (W.new b m)
     ·exact .inl m
   ·refine mj (dH (kle iA) λ b hb=>?_) ha;rcases bR hb with m|m
    ·exact .inr (Yr b m)
    ·exact .inl m
  exact zH _ _ _ loop (W.self 0 _ _ _ o6 loop)
 ·obtain ⟨rfl,o',h1,h2,h3,h4,h5⟩:=hr;exact X5 ⟨o',h1,h2,h3,h4,h5⟩
def Aj {FO:Comprehension} {gs:List Comprehension} {it aO:Value} {R:Result->Shared->Prop}
  (h0:codeAny (model XX w) A (.compLoop (.ListComp bP (FO::⟨aN,aG,bA,0⟩::gs) ag ar) 1 it aO aa) R s)
  (h:wpAny (model XX w) A (pyIter it) (λ se s'=>codeAny (model XX w) A (.compLoop (.ListComp bP (FO::⟨aN,aG,bA,0⟩::gs) ag ar) 1 se aO aa) R s')
   (notedBy (model XX w) A aa λ x s'=>R (.error x) s') s):
  codeAny (model XX w) A (.compStart (.ListComp bP (FO::⟨aN,aG,bA,0⟩::gs) ag ar) 1 it aO aa) R s:=by
 refine codeAny_of_tree ?_;show wpAny _ _ ((compStart (.ListComp bP (FO::⟨aN,aG,bA,0⟩::gs) ag ar) 1 it aO aa).onRaise (λ x=>do noteFrame x aa;standAt theWindowsPlace)) _ _ s;refine wpAny_notedAt ?_;unfold compStart;show wpAny _ _ (ask>>=_) _ _ s;refine Z4 (wpAny_askSetting (wpAny_ite ?_));split
 ·first
   |exact Z4 (X5 (X5 (And.intro rfl h0)))
   |exact X5 (And.intro rfl h0)
 ·first
   |exact Z4 (wpAny_rule (Z4 (ig (Z4 (Zh h (λ se s' h'=>X5 (And.intro rfl h')) dp)))))
   |(refine Z4 (wpAny_rule ?_);show wpAny _ _ (standAt aG.pos>>=_) _ _ s;exact Z4 (ig (Z4 (Zh h (λ se s' h'=>X5 (And.intro rfl h')) dp))))
def O1 {iO ee:Expr} {jo:List Expr} (it D:Value) (cenv:Env):r7 (.ListComp bP [⟨aN,aG,bA,0⟩,⟨iO,ee,jo,0⟩] ag ar) 0 it D cenv aN aG.pos bA (do
   let x<-eval ee cenv
   standAt ee.pos
   let x<-foldedSetIterable ee cenv x
   let _<-runOwn (.compStart (.ListComp bP [⟨aN,aG,bA,0⟩,⟨iO,ee,jo,0⟩] ag ar) 1 (<-holding [x] (pyIter x)) D cenv) cenv):=by
 have h:compTurn (.ListComp bP [⟨aN,aG,bA,0⟩,⟨iO,ee,jo,0⟩] ag ar) 0 it D cenv=(do
   standAt aG.pos
   match<-pyNext it with
   |none=>pure (.done .next)
   |some v=>
    letOwnedTupleGo aN it v
    assign aN cenv v
    let mut ok:=true
    for c in bA do
     if ok then ok<-isTrue c cenv (eval c cenv)
    if ok then
     let x<-eval ee cenv
     standAt ee.pos
     let x<-foldedSetIterable ee cenv x
     let _<-runOwn (.compStart (.ListComp bP [⟨aN,aG,bA,0⟩,⟨iO,ee,jo,0⟩] ag ar) 1 (<-holding [x] (pyIter x)) D cenv) cenv
    again (.compLoop (.ListComp bP [⟨aN,aG,bA,0⟩,⟨iO,ee,jo,0⟩] ag ar) 0 it D cenv)):=by rfl
 unfold r7;rw [h];refine congrArg (standAt aG.pos>>=·) (funext λ ξ=>congrArg (pyNext it>>=·) (funext λ r=>?_));cases r with
 |none=>rfl
 |some v=>simp only [bind_assoc,pure_bind]
noncomputable def ib {ι κ:Type} (ai:List ι) (p:ι->Bool) (js:ι->List κ) (q:ι->κ->Bool) {γ:Type} (R:ι->κ->γ):List γ:=(ai.filter p).flatMap λ a=>((js a).filter (q a)).map (R a)
def o3 {ai:List ι} {abL:ι->YJ} {β:ι->eV} {p:ι->Bool}
  {js:ι->List κ} {XU:κ->YJ} {iO ee:Expr} {jo:List Expr} {p9:ι->κ->eV} {q:ι->κ->Bool} {R:ι->κ->YJ} {m:Nat} {use:Option (Value->Sem Unit)} {Q:Value->Shared->Prop} {E:Value->Shared->Prop} {be:Pos}
  (ok:fS sc ρ ag) {Ok yd:Expr->Prop} (hs:jP A sc ρ aG ai abL Ok) (iG:∀aa x,foldedSetIterable aG aa x=pure x) (bl:ai.length<=sizeLine) (g8:Ok aN)
  (ht:∀a∈ai,jn A (cg sc ag.names) (ownOf ag) aN (abL a) (β a))
  (ng:∀a∈ai,lM A (cg sc ag.names) (β a++e7 ag ρ) bA (p a))
  (rA:∀a∈ai,jP A (cg sc ag.names) (β a++e7 ag ρ) ee (js a) XU yd) (BN:∀aa x,foldedSetIterable ee aa x=pure x) (q6:yd iO)
  (Jl:∀a∈ai,∀b∈js a,jn A (cg sc ag.names) (ownOf ag) iO (XU b) (p9 a b))
  (gz:∀a∈ai,∀b∈js a,∀n P,(β a++e7 ag ρ).lookup n=some P->(p9 a b++(β a++e7 ag ρ)).lookup n=some P)
  (BO:∀a∈ai,∀b∈js a,lM A (cg sc ag.names) (p9 a b++(β a++e7 ag ρ)) jo (q a b))
  (ni:∀a∈ai,∀b∈js a,p a=true->q a b=true->Ev A (cg sc ag.names) (p9 a b++(β a++e7 ag ρ)) bP (R a b))
  (n9:∀n∈ownOf ag,(cg sc ag.names).lookup n=some .cell)
  (hm:∀a∈ai,(js a).length<=m) (hz:ai.length*m<=sizeLine)
  (c:XK sc ρ S aa s.heap)
  (hQ:∀(D C:Addr) s',Keeps s s'->s.heap.get? C=none->s.heap.get? D=none->C≠D->(∃m,s'.heap.Ns C m)->(cH (ib ai p js q R)).p (hide (C::S) s'.heap) (.ref D)->compPost (model XX w) A E use Q (.ref D) C (.ok .next) s'):
  wpAny (model XX w) A (comprehension (.ListComp bP [⟨aN,aG,bA,0⟩,⟨iO,ee,jo,0⟩] ag ar) ag aa be (newList []) false (eval aG aa) use) Q E s:=by
 refine oi (ai:=ai) (e:=.ListComp bP [⟨aN,aG,bA,0⟩,⟨iO,ee,jo,0⟩] ag ar) (gs:=[⟨iO,ee,jo,0⟩]) (p:=p) (β:=β) (use:=use)
  (cJ:=λ D cenv=>do
   let x<-eval ee cenv
   standAt ee.pos
   let x<-foldedSetIterable ee cenv x
   let _<-runOwn (.compStart (.ListComp bP [⟨aN,aG,bA,0⟩,⟨iO,ee,jo,0⟩] ag ar) 1 (<-holding [x] (pyIter x)) D cenv) cenv)
  (Acc:=λ i g o=>∃ys k,o={cls:=.type "list",data:=.seq ys k}/\AllP g (ib (ai.take i) p js q R) ys.toList/\ys.size<=i*m)
  ok hs iG bl g8 ht ng rfl (λ s Q k=>?_) (λ le ⟨ys,k,h1,h2,h3⟩=>bW ys k h1 (h2.mono le) h3) (λ i hi g o hp ⟨ys,k,h1,h2,h3⟩=>bW ys k h1 ?_ (by rw [Nat.succ_mul];w_up)) (λ i hi hp S' cenv D s o cx Zt hD h1 h2 ho ha=>?_) (λ it D cenv=>O1 _ _ _) (λ ξ ξ ξ=>rfl) (λ ξ ξ ξ=>rfl) (λ ξ ξ ξ=>rfl) (λ it aO cenv R s h0 h=>codeAny_compStart_list h0 h) c λ D C s' k Zj Zw ne ξ hn hw=>?_
 ·refine wpAny_newObj_type ?_;exact k _ rfl λ g=>bW (#[]) 0 rfl trivial (Nat.zero_le _)
 ·unfold ib;rw [take_succ_filter p ai i ai[i] (by simp [hi]),hp,if_neg nD,List.append_nil];exact h2
 ·refine bU ha λ ys kk cX o7 hsz=>?_;subst cX;have mP:ai[i]∈ai:=List.getElem_mem hi;have Ae:ib (ai.take (i+1)) p js q R=ib (ai.take i) p js q R++((js ai[i]).filter (q ai[i])).map (R ai[i]):=by unfold ib;rw [take_succ_filter p ai i ai[i] (by simp [hi]),hp,if_pos rfl,List.flatMap_append];simp
  have Xk:=hm _ mP;have LL:(i+1)*m<=ai.length*m:=Nat.mul_le_mul_right m hi;rw [Nat.succ_mul] at LL;have inner:=BL (A:=A) (sc:=cg sc ag.names) (ρ:=β ai[i]++e7 ag ρ) (ak:=ownOf ag) (S:=S') (s:=s) (ai:=js ai[i]) (abL:=XU) (e:=.ListComp bP [⟨aN,aG,bA,0⟩,⟨iO,ee,jo,0⟩] ag ar) (aN:=iO) (aG:=ee) (bA:=jo) (β:=p9 ai[i]) (p:=q ai[i])
   (cJ:=do let _<-call (.builtin "list.append") [.ref D,<-eval bP cenv]) (D:=D) (d:=1) (cenv:=cenv)
   (Acc:=λ j g o=>∃zs k,o={cls:=.type "list",data:=.seq zs k}/\AllP g (ib (ai.take i) p js q R++(((js ai[i]).take j).filter (q ai[i])).map (R ai[i])) zs.toList/\zs.size<=i*m+j)
   (rA _ mP) (BN cenv) q6 (Jl _ mP) (BO _ mP) (gz _ mP) (λ le ⟨zs,k,a1,a2,a3⟩=>bW zs k a1 (a2.mono le) a3)
   (λ j hj g o hq ⟨zs,k,a1,a2,a3⟩=>bW zs k a1 (by rw [take_succ_filter (q ai[i]) (js ai[i]) j (js ai[i])[j] (by simp [hj]),hq];simpa using a2) (by w_up))
   (λ j hj hq o9 dK o O2 O3 O4 O5=>by refine bU O5 λ zs k c7 pz Xl=>?_;subst c7;have RN:(js ai[i])[j]∈js ai[i]:=List.getElem_mem hj;refine Z4 ((ni _ mP _ RN hp hq).use O2 λ y dT mF wI py=>?_);refine Z4 (wpAny_list_append_plain (hsz:=by w_up) ⟨k,kle mF _ _ O4⟩ λ qZ oE Ad=>X5 ?_);refine aM oE λ k' oE=>?_;have iH:abO [D] dT {dT with heap:=qZ}:=abO.set Ad λ ξ ξ=>⟨_,oE⟩;have Jm:XN (hide o9 dT.heap) (hide o9 qZ):=(iH.more λ b hb=>by rw [bj hb];exact O3).le;refine eX _ oE ⟨zs.push y,k',rfl,?_,by rw [Array.size_push];w_up⟩ ((abO.of mF).trans iH);rw [take_succ_filter (q ai[i]) (js ai[i]) j (js ai[i])[j] (by simp [hj]),hq,if_pos rfl,List.map_append,Array.toList_push,<-List.append_assoc];exact ((pz.mono (aJ (kle mF))).mono Jm).append ⟨(R _ _).mono Jm py,trivial⟩)
   (λ it=>by rfl) (λ it=>rfl) (λ it=>rfl) (λ it=>rfl) (λ it R s h0 h=>Aj h0 h)
   cx Zt hD h1 h2 (λ n hn=>by rw [cx.kindOf];exact n9 n hn) ho ⟨ys,kk,rfl,by simpa using o7,by w_up⟩
  unfold oh at inner⊢;refine Zh inner (λ ξ gT z=>?_) dp;refine cZ z λ o' z1 dI X4=>?_;refine bU dI λ zs k wA z2 Zu=>?_;subst wA;refine eX _ z1 ⟨zs,k,rfl,?_,by rw [Nat.succ_mul];w_up⟩ X4;rw [Ae];rw [List.take_length] at z2;exact z2
 ·obtain ⟨o,ho,ys,kk,rfl,o7,_⟩:=hw;rw [List.take_length] at o7;exact hQ D C s' k Zj Zw ne hn ⟨D,ys,kk,rfl,ho,o7⟩
def wJ {ai:List ι} {abL:ι->YJ} {β:ι->eV} {p:ι->Bool}
  {js:ι->List κ} {XU:κ->YJ} {iO ee:Expr} {jo:List Expr} {p9:ι->κ->eV} {q:ι->κ->Bool} {R:ι->κ->YJ} {m:Nat}
  (ok:fS sc ρ ag) {Ok yd:Expr->Prop} (hs:jP A sc ρ aG ai abL Ok) (iG:∀aa x,foldedSetIterable aG aa x=pure x) (bl:ai.length<=sizeLine) (g8:Ok aN)
  (ht:∀a∈ai,jn A (cg sc ag.names) (ownOf ag) aN (abL a) (β a))
  (ng:∀a∈ai,lM A (cg sc ag.names) (β a++e7 ag ρ) bA (p a))
  (rA:∀a∈ai,jP A (cg sc ag.names) (β a++e7 ag ρ) ee (js a) XU yd) (BN:∀aa x,foldedSetIterable ee aa x=pure x) (q6:yd iO)
  (Jl:∀a∈ai,∀b∈js a,jn A (cg sc ag.names) (ownOf ag) iO (XU b) (p9 a b))
  (gz:∀a∈ai,∀b∈js a,∀n P,(β a++e7 ag ρ).lookup n=some P->(p9 a b++(β a++e7 ag ρ)).lookup n=some P)
  (BO:∀a∈ai,∀b∈js a,lM A (cg sc ag.names) (p9 a b++(β a++e7 ag ρ)) jo (q a b))
  (ni:∀a∈ai,∀b∈js a,p a=true->q a b=true->Ev A (cg sc ag.names) (p9 a b++(β a++e7 ag ρ)) bP (R a b))
  (n9:∀n∈ownOf ag,(cg sc ag.names).lookup n=some .cell)
  (hm:∀a∈ai,(js a).length<=m) (hz:ai.length*m<=sizeLine):
  Ev A sc ρ (.ListComp bP [⟨aN,aG,bA,0⟩,⟨iO,ee,jo,0⟩] ag ar) (cH (ib ai p js q R)):=λ S aa s c=>by
 rw [eval_ListComp];refine o3 ok hs iG bl g8 ht ng rA BN q6 Jl gz BO ni n9 hm hz c λ D C s' k Zj Zw ne hn Vi=>?_;refine aM hn λ mm Vj=>?_;refine ⟨mm,Vj,λ h' gA=>⟨?_,?_⟩⟩
 ·refine bu k λ dg mq eK kk=>?_;subst eK;refine d8 h' mq rfl (λ b o e=>(gA.2 b ?_).trans (kk b o e));rintro rfl;rw [Zj] at e;cases e
 ·refine (cH _).mono ?_ Vi;refine XN.trans (b5 (S:=C::S) λ b o hb e=>?_) (cT λ b hb=>Ym _ hb);exact (gA.2 b λ q=>hb (q▸di)).trans e
def sG {xs:List (Str×Pos)} {k2:Nat} {ep:Pos} (hh:A.handled=none) (f:YQ sc ak F aw az aa ρ J S s)
  (he:nE A sc ρ ys YN) (hl:xs.length=YN.length) (hz:YN.length+1<=sizeLine) (hx:∀x∈(z,YA)::xs,cw ak sc x.1=true)
  (fh:∀aa,starEach (.List [] lp::ys) aa=(false,eval (.List [] lp) aa)::starEach ys aa)
  (hs:swapsWithSole [.Tuple (((z,YA)::xs).map λ x=>.Name x.1 x.2) kk tp] (.Tuple (.List [] lp::ys) k2 ep) ar.line aa=pure false)
  (hw:swappedStores [.Tuple (((z,YA)::xs).map λ x=>.Name x.1 x.2) kk tp] (.Tuple (.List [] lp::ys) k2 ep) aa=pure none)
  (k:∀D s',D∉S->D∉J.fp->YQ sc ak F aw az aa (((z::xs.map (·.1)).zip (lit (.ref D)::YN)).reverse++ρ) ((dc D []).and J) (D::S) s'->wpAny (model XX w) A (execs aD aa) Q E s'):
  wpAny (model XX w) A (execs (.Assign [.Tuple (((z,YA)::xs).map λ x=>.Name x.1 x.2) kk tp] (.Tuple (.List [] lp::ys) k2 ep) ar::aD) aa) Q E s:=by
 refine YF (Assign_Tuple (hs:=hs) (hw:=hw) (wpAny_Tuple (j7 (he:=fh aa) (wpAny_List (wpAny_items_nil ⟨Nat.zero_le _,?_⟩)))));have hn:s.heap.get? s.heap.objs.size=none:=get_none (Nat.le_refl _);have iy:(s.heap.push {cls:=.type "list",data:=.seq ([]:List Value).toArray}).get? s.heap.objs.size=some {cls:=.type "list",data:=.seq ([]:List Value).toArray}:=Heap.get?_push_size _ rfl;have f':=f.lay (s':={s with heap:=s.heap.push {cls:=.type "list",data:=.seq ([]:List Value).toArray}}) (D:=s.heap.objs.size) (K:=dc s.heap.objs.size []) ⟨_,_,rfl,λ ξ ξ e=>cN _ e⟩ hn ⟨_,iy⟩ (λ b m=>bj m) ⟨_,_,iy,trivial⟩;have e9:s.heap.objs.size∉S:=eO f.cx.b4 (Nat.le_refl _);generalize hD:s.heap.objs.size=D at*;refine up (Zh (he _ aa _ _ f'.cx) (λ vs aA q=>?_) dp);refine cO q λ k₂ pa=>?_;refine ⟨by rw [List.length_cons,pa.length];exact hz,?_⟩;have bh:=f'.keep k₂;have kp:Keeps aA {aA with heap:=aA.heap.push {cls:=.type "tuple",data:=.seq (Value.ref D::vs).toArray}}:=⟨_,_,rfl,λ ξ ξ e=>cN _ e⟩;have dC:=bh.keep kp;have Ys:(f5 (lit (.ref D)::YN)).p (hide (D::S) (aA.heap.push {cls:=.type "tuple",data:=.seq (Value.ref D::vs).toArray})) (.ref aA.heap.objs.size):=
  ⟨_,_,_,rfl,eZ bh.cx.b4 rfl,⟨rfl,pa.mono (aJ λ ξ ξ e=>cN _ e)⟩⟩
 refine mh (xs:=(z,YA)::xs) (YN:=lit (.ref D)::YN) (k:=kk) (ar:=tp) hh (by rw [List.length_cons,List.length_cons,hl]) hx ρ (D::S) aa _ _ _ _ dC.cx dC.Zt Ys λ bS a b d g=>?_;exact k D bS e9 (λ m=>e9 (f.aar _ m).1) (dC.kept a b d g)
def qa [aaK α] {xs:List α} (hz:xs.length<=sizeLine):fJ A (.type "tuple") [is xs] (is (jS.mk xs)):=λ S s vs T fr p=>by
 refine aK p.one λ v c7 pv=>?_;subst c7;refine bw (is_list.mp pv) λ a vs m d6 ha pa=>?_;subst d6;have e1:=pa.length;rw [Array.length_toList,lm] at e1;refine call_tuple_list (ed (ao _ _ ha)) (λ h' hk=>⟨⟨_,_,rfl,λ b o e=>cN _ (hk b o e)⟩,is_tup.mpr ⟨h'.objs.size,vs,0,rfl,?_,?_⟩⟩) (by rw [e1];exact hz)
 ·exact eZ (S:=S) (s:={s with heap:=h'}) (λ b hb=>let ⟨o,e⟩:=fr b hb;⟨o,hk b o e⟩) rfl
 ·exact pa.mono (aJ λ b o e=>cN _ (hk b o e))
def yW [aaK α] {ai:List ι} {p:ι->Bool} {js:ι->List κ} {q:ι->κ->Bool} {g:ι->κ->α} (x:(cH (ib ai p js q λ a b=>is (g a b))).p h v):(is (ib ai p js q g)).p h v:=by
 refine is_list.mpr ?_;have e:ib ai p js q (λ a b=>(is (g a b):YJ))=(ib ai p js q g).map is:=by unfold ib;rw [List.map_flatMap];congr 1;funext a;rw [List.map_map];rfl
 rw [<-e];exact x
structure jY (J aa_:XW) (σ σ':bQ):Prop where
 mem:∀b∈σ.all,b∈J.fp
 fp:∀b∈aa_.fp,b∈J.fp
 get:∀{g h:Heap},J.p g h->ck σ h
 set:∀{g g' h h':Heap},XN g g'->XN g h->XN g' h'->(∀b o,b∉σ.all->h.get? b=some o->h'.get? b=some o)->J.p g h->ck σ' h'->aa_.p g' h'
def jg (ha:σ'.all=σ.all):jY (b8 σ) (b8 σ') σ σ':=⟨λ ξ h=>h,λ b h=>by have:b∈σ'.all:=h;rw [ha] at this;exact this,λ x=>x,λ ξ ξ ξ ξ ξ y=>y⟩
def jZ (l:jY J aa_ σ σ') (hd:∀b∈σ.all,b∉K.fp):jY (K.and J) (K.and aa_) σ σ' where
 mem:=λ b h=>bC _ (l.mem b h)
 fp:=λ b h=>by
  rcases bR h with h|h
  ·exact bL _ h
  ·exact bC _ (l.fp b h)
 get:=λ x=>l.get x.2
 set:=λ l1 l2 Yi k x y=>⟨K.st l1 l2 Yi (λ b hb o e=>k b o (λ q=>hd b q hb) e) x.1,l.set l1 l2 Yi k x.2 y⟩
def YQ.uN {c:Addr} (f:YQ sc ak F aw az aa ρ J S s) (L:jY J aa_ σ σ') (hc:c∈σ.all) (hs:Heap.SameBut c s.heap h') (hl:∃o,h'.get? c=some o) (X:ck σ' h'):YQ sc ak F aw az aa ρ aa_ S {s with heap:=h',toks:=tk}:=by have RO:=L.mem c hc;have e9:=(f.aar c RO).1;have dS:XN (hide S s.heap) (hide S h'):=b5 λ b o nb e=>(hs.2 b λ q=>nb (q▸e9)).trans e;exact f.mut (aa_:=aa_) RO hs hl (L.set dS ao ao (λ b o nb e=>(hs.2 b λ q=>nb (q▸hc)).trans e) f.jp X) L.fp
noncomputable def gq (k:Int) (n:abp):abp:={n with np:=k}
noncomputable def k7 (y:Tx) (n:abp):abp:={n with succ:=n.succ++[y]}
def FP {k:Int} {t:Tok} (f:YQ sc ak F aw az aa ρ J S s) (L:jY J aa_ σ (σ.cz en.nd.node (gq k))) (he:en∈σ.es) (q:∀s',YQ sc ak F aw az aa ρ aa_ S s'->XF () s'):
  wpAny (model XX w) A (setAttr (.ref en.a) "npredecessors" (.int k t)) XF E s:=by
 have X:=L.get f.jp;have N:=X.info en he;refine cS N.at_ λ t1 t2 ha=>?_;have gp:[en.a,en.dx,en.b].Nodup:=(X.mQ en he).1;refine p0 (f.cx.top.k.keeps ao) ha ⟨_,N.rH⟩ Jc abl yS bH λ h' tk hs hg=>?_;have DT:h'.get? en.a=some (rG en.dx #[some (.str en.nd.node.s t1),some (.int k t),some (.ref en.b)]):=by rw [hg];exact congrArg (λ z=>some (rG en.dx z)) (FH _ _ _ _)
 have N':jX h' en.a en.dx en.b (gq k en.nd):=⟨⟨t1,t,DT⟩,(hs.2 _ λ q=>(fb (lK gp)) q.symm).trans N.rH,let ⟨vs,n,e,z⟩:=N.XA;⟨vs,n,(hs.2 _ λ q=>(fb (f3 (lK gp))) q.symm).trans e,z⟩⟩;exact q _ (f.uN L (gH he Ent.mA) hs ⟨_,DT⟩ (X.cz (λ ξ=>rfl) he rfl (c:=en.a) Ent.mA hs N'))
def Eh (X:ck σ h) {c:Addr} (hc:c∈σ.all) {vs:Array Value} {n:Nat}:¬IsT h c vs n:=λ q=>by
 have q:h.get? c=some {cls:=.type "tuple",dict:=none,data:=.seq vs n,slots:=#[]}:=q;have bad:∀o,h.get? c=some o->o.cls= .type "tuple":=λ o e=>by rw [q] at e;cases e;rfl
 have Jo:∀o es ep,h.get? c=some o->o.data= .dict es ep->False:=λ o es ep e d=>by rw [q] at e;cases e;cases d
 have lst:∀vs n,IsL h c vs n->False:=λ vs n e=>absurd (bad _ e) (by simp);rcases bR hc with m|m
 ·refine jj X.inst λ mm t1 t2 I=>?_;rcases cF m with rfl|m
  ·exact absurd (bad _ I.inst.at_) (by simp)
  ·rcases cF m with rfl|m
   ·refine bw I.inst.ns λ o es ep e d ξ=>?_;exact Jo o es ep e d
   ·rcases cF m with rfl|m
    ·refine lZ X.dict λ o es ep e ξ d ξ=>?_;exact Jo o es ep e d
    ·have hR:σ.R=some c:=by
      cases hR:σ.R with
      |none=>rw [hR] at m;cases m
      |some R=>rw [hR] at m;rw [bj m]
     refine bu (X.bG c hR) λ vs n e ξ=>?_;exact lst _ _ e
 ·refine aK (List.mem_flatMap.mp m) λ en he hm=>?_;have N:=X.info en he;rcases cF hm with rfl|hm
  ·refine cS N.at_ λ t1 t2 e=>?_;exact absurd (bad _ e) (by simp)
  ·rcases cF hm with rfl|hm
   ·exact Jo _ _ _ N.rH rfl
   ·refine bu N.XA λ vs n e ξ=>?_;rw [<-bj hm] at e;exact lst _ _ e
def Jp {xs:jS Tx} (X:ck σ h) (p:(is xs).p (hide (iI S σ.all) h) v):(is xs).p (hide S h) v:=by
 refine bw (is_tup.mp p) λ a vs n gG it al=>?_;subst gG;refine is_tup.mpr ⟨a,vs,n,rfl,?_,eH.mp (eH.mpr al)⟩;show Heap.get? _ a=_;rw [bI,if_neg λ m=>?_]
 ·exact ao _ _ it
 ·by_cases q:a∈σ.all
  ·exact Eh X q (ao _ _ it)
  ·have:a∈iI S σ.all:=List.mem_filter.mpr ⟨m,by simpa using q⟩;have se:(hide (iI S σ.all) h).get? a=_:=it;rw [bI,if_pos this] at se;cases se
noncomputable def gW (σ:bQ):YJ:=⟨λ h v=>v= .ref σ.N/\ck σ h,λ k ⟨e,x⟩=>⟨e,x.gV λ b ξ o q=>k b o q⟩⟩
def rJ:l8 (gW σ) "dict":=λ s v p=>by refine cO p λ il X=>?_;subst il;exact X.dict.typeIs
def mG {L:List Ent} (hn:(L.map λ e=>e.nd.node).Nodup) (he:en∈L):valueAt (L.map λ e=>(e.nd.node.s,Value.ref e.a)) en.nd.node.s=some (.ref en.a):=by
 induction L with
 |nil=>cases he
 |cons e l ih=>
  rw [List.map_cons,List.nodup_cons] at hn;unfold valueAt;rw [List.map_cons,List.find?_cons];by_cases q:e.nd.node=en.nd.node
  ·have:e=en:=by
    rcases cF he with rfl|he
    ·rfl
    ·exact absurd (List.mem_map.mpr ⟨en,he,q.symm⟩) hn.1
   subst this;simp
  ·have q':¬e.nd.node.s=en.nd.node.s:=λ z=>q (Tx.lu z);have nQ:en∈l:=by
    rcases cF he with rfl|he
    ·exact absurd rfl q
    ·exact he
   have:=ih hn.2 nQ;unfold valueAt at this;simpa [q'] using this
def uh {L:List Ent} {x:Tx} (hx:x∉L.map λ e=>e.nd.node):valueAt (L.map λ e=>(e.nd.node.s,Value.ref e.a)) x.s=none:=by
 induction L with
 |nil=>rfl
 |cons e l ih=>
  rw [List.map_cons,List.mem_cons,not_or] at hx;have:=ih hx.2;unfold valueAt at this⊢;rw [List.map_cons,List.find?_cons];have q':¬e.nd.node.s=x.s:=λ z=>hx.1 (Tx.lu z).symm;simpa [q'] using this
def wK (he:en∈σ.es):fm A getItem (gW σ) (is en.nd.node) (lit (.ref en.a)):=λ S s a b ξ f p q=>by refine cO p λ gi X=>?_;subst gi;refine aM (bz.mp q) λ t gM=>?_;subst gM;exact wpAny_getItem_of (knd:=abh) (km en.nd.node t) (X.dict.at λ o e=>ao _ _ e).mapOf (mG X.nn he) ⟨dG _ _,rfl⟩
def oF (h:Within m ns) (hn:name∈ns):Within (λ y=>if y=name then some v else m y) ns:=λ y hy=>by
 by_cases e:y=name
 ·rw [e];exact hn
 ·exact h y λ z=>hy (by show (if y=name then some v else m y)=none;rw [if_neg e];exact z)
def BP {k:Int} {t:Tok} (f:YQ sc ak F aw az aa ρ J S s) (L:jY J aa_ σ {σ with out:=k}) (q:∀s',YQ sc ak F aw az aa ρ aa_ S s'->XF () s'):wpAny (model XX w) A (setAttr (.ref σ.D) "_npassedout" (.int k t)) XF E s:=by have X:=L.get f.jp;refine jj X.inst λ m t1 t2 I=>?_;refine qF jV (f.cx.top.k.keeps ao) I.inst abl I.Xz bH λ h' tk I' hs=>?_;exact q _ (f.uN L (cW bQ.Z3) hs (by refine cY I'.ns λ o ξ ξ e ξ=>?_;exact ⟨o,e⟩) (X.attr hs ⟨I',oF I.Xz bH,(if_neg bH).trans I.Ag,(if_neg bH).trans I.YV,if_pos rfl,(if_neg bH).trans I.YK⟩))
def BQ {k:Int} {t:Tok} (f:YQ sc ak F aw az aa ρ J S s) (L:jY J aa_ σ {σ with fin:=k}) (q:∀s',YQ sc ak F aw az aa ρ aa_ S s'->XF () s'):wpAny (model XX w) A (setAttr (.ref σ.D) "_nfinished" (.int k t)) XF E s:=by have X:=L.get f.jp;refine jj X.inst λ m t1 t2 I=>?_;refine qF jV (f.cx.top.k.keeps ao) I.inst abl I.Xz bH λ h' tk I' hs=>?_;exact q _ (f.uN L (cW bQ.Z3) hs (by refine cY I'.ns λ o ξ ξ e ξ=>?_;exact ⟨o,e⟩) (X.attr hs ⟨I',oF I.Xz bH,(if_neg bH).trans I.Ag,(if_neg bH).trans I.YV,(if_neg bH).trans I.po,if_pos rfl⟩))
def dq (σ:bQ) (k:Nat):bQ:=(σ.bG.take k).foldl (λ τ x=>τ.cz x (gq (-1))) σ
def dF (σ:bQ):bQ:={(dq σ σ.bG.length) with bG:=[],out:=σ.out+σ.bG.length}
def ye (h:k<σ.bG.length):dq σ (k+1)=(dq σ k).cz σ.bG[k] (gq (-1)):=by unfold dq;rw [List.take_add_one,List.getElem?_eq_getElem h,Option.toList,List.foldl_append];rfl
def ic (k:Nat):(dq σ k).all=σ.all:=by
 unfold dq;have a8:∀(l:List Tx) (τ:bQ),(l.foldl (λ τ x=>τ.cz x (gq (-1))) τ).all=τ.all:=by
  intro l;induction l with
  |nil=>intro τ;rfl
  |cons x l ih=>intro τ;rw [List.foldl_cons,ih,jf]
 exact a8 _ _
def yX {x y:Tx} {g:abp->abp} (hg:∀n,(g n).node=n.node) (h:∃e∈σ.es,e.nd.node=y):∃e∈(σ.cz x g).es,e.nd.node=y:=by
 refine aK h λ e he ff=>?_;subst ff;refine cV _ (List.mem_map.mpr ⟨e,he,rfl⟩) ?_;split
 ·exact hg _
 ·rfl
def Ak {y:Tx} (h:∃e∈σ.es,e.nd.node=y):∃e∈(dq σ k).es,e.nd.node=y:=by
 unfold dq;have a8:∀(l:List Tx) (τ:bQ),(∃e∈τ.es,e.nd.node=y)->∃e∈(l.foldl (λ τ x=>τ.cz x (gq (-1))) τ).es,e.nd.node=y:=by
  intro l;induction l with
  |nil=>intro τ h;exact h
  |cons x l ih=>intro τ h;rw [List.foldl_cons];exact ih _ (yX (λ ξ=>rfl) h)
 exact a8 _ _ h
def f7 (k:Nat):(dq σ k).D=σ.D/\(dq σ k).aaX=σ.aaX/\(dq σ k).N=σ.N/\(dq σ k).R=σ.R/\(dq σ k).bG=σ.bG/\(dq σ k).out=σ.out/\(dq σ k).fin=σ.fin:=by
 unfold dq;have a8:∀(l:List Tx) (τ:bQ),let qb:=l.foldl (λ τ x=>τ.cz x (gq (-1))) τ;qb.D=τ.D/\qb.aaX=τ.aaX/\qb.N=τ.N/\qb.R=τ.R/\qb.bG=τ.bG/\qb.out=τ.out/\qb.fin=τ.fin:=by
  intro l;induction l with
  |nil=>intro τ;exact ⟨rfl,rfl,rfl,rfl,rfl,rfl,rfl⟩
  |cons x l ih=>intro τ;exact ih (τ.cz x (gq (-1)))
 exact a8 _ _
def BR {xs:jS Tx} (hz:xs.xs.length<=sizeLine):fJ A (.builtin "len") [is xs] (is (xs.xs.length:Int)):=
 (sA (YN:=xs.xs.map is) (by rw [lm];exact hz)).conv (λ h vs p=>aK p.one λ v e q=>by subst e;exact ⟨is_tup.mp q,trivial⟩) λ h v p=>by rw [lm] at p;exact p
def BS {k:Int} (f:YQ sc ak F aw az aa ρ J S s) (L:jY J aa_ σ {σ with out:=σ.out+k}) (hz:Ev A sc ρ (.Name z YA) (lit (.ref σ.D))) (he:Ev A sc ρ e (is k))
  (q:∀s',YQ sc ak F aw az aa ρ aa_ S s'->wpAny (model XX w) A (execs aD aa) Q E s'):wpAny (model XX w) A (execs (.AugAssign (.Attribute (.Name z YA) "_npassedout" ap) .Add e ar::aD) aa) Q E s:=by
 refine YF (wpAny_AugAssign_AttributeAny (hz.use f.cx λ v aj k₁ c₁ aZ=>?_));rw [show v= .ref σ.D from aZ];have f:=f.keep k₁;refine jj ((L.get f.jp).inst) λ m t1 t2 I=>?_;refine ko (attr:=none) jV (f.cx.top.k.keeps ao) I.inst abl abl I.po abl ?_;have f:=f.keep (dG aj (aj.toks+1));refine he.use f.cx λ u aA k₂ c₂ cG=>?_;have f:=f.keep k₂;refine aM (bD.mp cG) λ t gi=>?_;subst gi;refine PyProof.Rows.iadd_int ?_;have f:=f.keep (dG aA (aA.toks+1));exact BP f L q
def BT {k:Int} (f:YQ sc ak F aw az aa ρ J S s) (L:jY J aa_ σ {σ with fin:=σ.fin+k}) (hz:Ev A sc ρ (.Name z YA) (lit (.ref σ.D))) (he:Ev A sc ρ e (is k))
  (q:∀s',YQ sc ak F aw az aa ρ aa_ S s'->wpAny (model XX w) A (execs aD aa) Q E s'):wpAny (model XX w) A (execs (.AugAssign (.Attribute (.Name z YA) "_nfinished" ap) .Add e ar::aD) aa) Q E s:=by
 refine YF (wpAny_AugAssign_AttributeAny (hz.use f.cx λ v aj k₁ c₁ aZ=>?_));rw [show v= .ref σ.D from aZ];have f:=f.keep k₁;refine jj ((L.get f.jp).inst) λ m t1 t2 I=>?_;refine ko (attr:=none) jV (f.cx.top.k.keeps ao) I.inst abl abl I.YK abl ?_;have f:=f.keep (dG aj (aj.toks+1));refine he.use f.cx λ u aA k₂ c₂ cG=>?_;have f:=f.keep k₂;refine aM (bD.mp cG) λ t fN=>?_;subst fN;refine PyProof.Rows.iadd_int ?_;have f:=f.keep (dG aA (aA.toks+1));exact BQ f L q
def qc (f:YQ sc ak F aw az aa ρ J S s) (hz:ρ.lookup z=some (lit (.ref σ.N))) (hj:ck σ s.heap):XK sc ((z,gW σ)::ρ) (iI S σ.all) aa s.heap:=
 (f.open σ.all).word hz ⟨rfl,hj.gV λ b m o e=>kr m e⟩
def q7 {R:Addr} (hR:σ.R=some R) (abx:cy 1 A) (hz:σ.bG.length<=1000) (N8:∀x∈σ.bG,∃e∈σ.es,e.nd.node=x):LJ A 141 σ (dF σ) [] (is (jS.mk σ.bG)):=λ aw az vs T fr abg hJ p=>by
 have hl:=br;refine kI (ρ:=[("self",lit (.ref σ.D))]) (J:=b8 σ) (F:=(b8 σ).fp) (o:=MR) T fr abx p abl rfl aaT ⟨140,MQ,_,_,rfl,by rfl,rfl,rfl⟩ ["self"]
  (mC (λ a=>by rfl)) abl abd abd hJ (λ b m=>⟨abg b m,m⟩) λ A' Q' aa S s aY i0 hQ ξ ξ ξ f=>?_
 have hr:q4 σ.R= .ref R:=by rw [hR];rfl
 refine nk f (fa (z:="self") f abl f.jp) (b:=false) ?_ nD λ ξ aj f=>?_
 ·exact bg (aV:=lit (.ref R)) (a6:=is ()) ((p7 af).imp λ ξ ξ q=>by rw [hr] at q;exact q) ik (mZ abl) abl
 refine bf (YF (wpAny_Assign_Name (hs:=by rfl) ?_));refine (ba (f:=.type "tuple") (YN:=[is σ.bG]) (P:=is (jS.mk σ.bG)) aQ (au (FJ hR af) aB) aR trivial (qa (by w_up))).use (fa (z:="self") f abl f.jp) λ v aA k₂ c₂ cG=>?_;have f:=f.keep k₂;refine f.store (z:="result") (P:=is (jS.mk σ.bG)) abd (Jp f.jp cG) λ aH f=>?_;refine ku f (fa (z:="self") f abl f.jp) (P:=lit (.ref σ.N)) (Ah af) tP abd aR λ bS f=>?_;have IW:∀b∈σ.all,b∈S:=λ b hb=>(f.aar b hb).1;refine lC (ai:=σ.bG) (abL:=is) (Ok:=Plain) (β:=λ x=>[("node",is x)]) (f9:=λ ξ=>[("n2i",lit (.ref σ.N)),("result",is (jS.mk σ.bG)),("self",lit (.ref σ.D))]) (ZH:=λ i=>b8 (dq σ i)) (lT:=[("n2i",lit (.ref σ.N)),("result",is (jS.mk σ.bG)),("self",lit (.ref σ.D))]) (aap:=b8 (dq σ σ.bG.length))
  f (λ ξ ξ h=>h) (vM (xs:=jS.mk σ.bG) aY.handled af) (.name _ _) (λ ξ=>rfl) (λ b ξ=>bB abd) (λ i b h=>by have h:b∈(dq σ i).all:=h;rw [ic] at h;exact h) (λ b h=>by have h:b∈(dq σ _).all:=h;rw [ic] at h;exact h) ?_ (λ S' s' f=>f) λ bY f=>?_
 ·intro i hi K S' bY hK f;refine Yj λ Q hQ=>?_;refine aK (Ak (k:=i) (N8 σ.bG[i] (List.getElem_mem hi))) λ en he jB=>?_;have hN:=(f7 (σ:=σ) i).2.2.1;have O6:=ye hi;generalize hx:σ.bG[i]=x at*;have j0:∀b∈(dq σ i).all,b∉K.fp:=λ b hb m=>hK b m (IW b (by rw [ic] at hb;exact hb));rw [O6] at hQ;generalize LM:dq σ i=τ at*;refine YF (plainObj_wpAny_Assign_Attribute (hs:=by rfl) ((cI (A:=A') (v:=.int (-1) 261) abd abd abl).use (qc (σ:=τ) (z:="n2i") f (by rw [hN];rfl) f.jp.2) λ v dK fz pY oZ=>(cP (A:=A') (aV:=gW τ) (a6:=is x) (P:=lit (.ref en.a)) af af (by rw [<-jB];exact wK he) rJ PySem.F.slot_dict_getitem.lookup).use pY λ u dT mF wI sD=>?_));rw [show v= .int (-1) 261 from oZ,show u= .ref en.a from sD];have f:=f.keep (aL fz mF);rw [<-jB] at hQ;exact FP f (jZ (jg jf) j0) he λ s' f=>bf (hQ .next _ (f.ek (ay abl (ay abl (ay abl bO)))))
 ·have iP:=ic (σ:=σ) σ.bG.length;refine jG (f7 (σ:=σ) σ.bG.length) λ hD RP hN qU RQ RS WY=>?_;have Vk:dF σ={(dq σ σ.bG.length) with bG:=[],out:=σ.out+σ.bG.length}:=rfl;generalize LM:dq σ σ.bG.length=τ at*;have f:=f.ek (gy:=[("n2i",lit (.ref σ.N)),("result",is (jS.mk σ.bG)),("self",lit (.ref τ.D))]) (by rw [hD];exact λ ξ ξ h=>h);rw [hR] at qU;have hr:q4 τ.R= .ref R:=by rw [qU];rfl
  refine jW f.cx aR (eG ⟨_,rfl⟩ ((p7 (σ:=τ) af).use (fa (z:="self") f abl f.jp) λ v dK fz pY oZ=>λ pl=>?_));rw [show v= .ref R from Eq.trans oZ hr];have f:=f.keep fz;refine bu (f.jp.bG R qU) λ vs n aaS tl=>?_;have hsz:vs.size<=sizeLine:=by have:=tl.length;rw [Array.length_toList,RQ] at this;w_up
  refine getMethod_builtin ⟨_,aaS,rfl⟩ PySem.F.plainAttrs_list PySem.F.slot_list_clear PySem.F.type_list_clear (λ a q=>by cases q;exact cV _ aaS rfl) ?_;refine _root_.PySem.P.clear_list aaS ⟨λ a q=>(nomatch q),?_⟩ hsz;have iy:=Heap.get?_update_self (Obj.mapSeq λ ξ=>#[]) aaS rfl;have hs:Heap.SameBut R dK.heap (dK.heap.update R (Obj.mapSeq λ ξ=>#[])):=Heap.SameBut.update ..;have f:=f.uN (σ':={τ with bG:=[]}) (tk:=dK.toks) (jg rfl) (cW (bQ.XB qU)) hs ⟨_,iy⟩ (f.jp.FI qU hs iy trivial);refine BS (σ:={τ with bG:=[]}) (k:=(σ.bG.length:Int)) (aa_:=b8 (dF σ)) f (by rw [Vk,<-RS];exact jg rfl) af (ba (f:=.builtin "len") (YN:=[is (jS.mk σ.bG)]) aQ (au af aB) aR trivial (BR (by show σ.bG.length<=_;w_up))) λ dT f=>?_;refine dO f (P:=is (jS.mk σ.bG)) af λ v mS f' p=>?_;exact hQ _ _ ⟨f'.aaH,(b8 _).st (cT f'.sub) ao ao (λ ξ ξ ξ e=>e) f'.jp,(is (jS.mk σ.bG)).mono (cT f'.sub) p⟩
noncomputable def Jq (I a:Addr) (i:Nat):XW:=⟨[I],λ ξ h=>h.IsListIter I a i,λ ξ ξ ξ k ⟨o,e,r⟩=>cV o (k I (by simp) _ e) r⟩
def Ei {xs:List Tx} (q:ia xs vs) (hi:i<xs.length) (e:vs[i]? =some v):∃t,v= .str (xs[i]).s t:=by refine aK ((eH (g:=default)).mp q|>.get (i:=i) (P:=is xs[i]) (by rw [List.getElem?_map,List.getElem?_eq_getElem hi];rfl)) λ u h1 h2=>?_;rw [e] at h1;cases h1;exact bz.mp h2
def LN {xs:List Tx} {ZH:Nat->XW} {lT:eV} {aap:XW} (hh:A.handled=none)
  (iw:YQ sc ak F aw az aa ρ (ZH 0) S s) (gz:∀n P,(f9 0).lookup n=some P->ρ.lookup n=some P)
  (he:wpAny (model XX w) A (eval aG aa) (λ v aj=>v= .ref a/\Keeps s aj) dj s) (iG:∀x,foldedSetIterable aG aa x=pure x)
  (hl:∀i g h,(ZH i).p g h->∃vs n,IsL h a vs n/\ia xs vs.toList) (hz:cw ak sc z=true) (kX:∀i b,b∈(ZH i).fp->b∈(ZH 0).fp) (Om:∀b,b∈aap.fp->b∈(ZH 0).fp)
  (step:∀i (hi:i<xs.length) (K:XW) S' s',(∀b∈K.fp,b∉S)->YQ sc ak F aw az aa ((z,is xs[i])::f9 i) (K.and (ZH i)) S' s'->
   wpAny (model XX w) A (execs bM aa) (λ fl gh=>match fl with
    | .next| .cont=>YQ sc ak F aw az aa (f9 (i+1)) (K.and (ZH (i+1))) S' gh
    | .brk=>YQ sc ak F aw az aa lT (K.and aap) S' gh
    | .ret v=>Q (.ret v) gh) dj s')
  (fin:∀S' s',YQ sc ak F aw az aa (f9 xs.length) (ZH xs.length) S' s'->YQ sc ak F aw az aa lT aap S' s')
  (k:∀s',YQ sc ak F aw az aa lT aap S s'->wpAny (model XX w) A (execs aD aa) Q dj s'):
  wpAny (model XX w) A (execs (.For (.Name z YA) aG bM [] ar::aD) aa) Q dj s:=by
 have f:=iw.ek gz;have uB:∀{α:Type} {t:Sem α} {Q:α->Shared->Prop} {E:Value->Shared->Prop} {s:Shared},wpAny (model XX w) A t Q dj s->wpAny (model XX w) A t Q E s:=λ h=>Zh h dp eY;refine YF (wpAny_For (hs:=iG) (Zh he (λ xv aj q=>?_) eY));refine cO q λ c7 k₁=>?_;subst c7;have bN:=f.keep k₁;refine bu (hl 0 _ _ bN.jp) λ Jr NN Js Vl=>?_;refine wpAny_pyIter_list (ed Js) ?_;have mP:aj.heap.get? aj.heap.objs.size=none:=get_none (Nat.le_refl _);have sr:(aj.heap.push {cls:=.type "list_iterator",data:=.fields #[.ref a,.int 0 0]}).IsListIter aj.heap.objs.size a 0:=⟨_,Heap.get?_push_size _ rfl,rfl,rfl⟩;have O7:aj.heap.objs.size∉S:=eO bN.cx.b4 (Nat.le_refl _);have bh:YQ sc ak F aw az aa (f9 0) ((Jq aj.heap.objs.size a 0).and (ZH 0)) (aj.heap.objs.size::S) {aj with heap:=aj.heap.push {cls:=.type "list_iterator",data:=.fields #[.ref a,.int 0 0]}}:=
  bN.lay (D:=aj.heap.objs.size) ⟨_,_,rfl,λ ξ ξ e=>cN _ e⟩ mP ⟨_,Heap.get?_push_size _ rfl⟩ (λ b m=>bj m) sr
 generalize hI:aj.heap.objs.size=I at*;have O8:az.heap.get? I=none:=by
  cases e:az.heap.get? I with
  |none=>rfl
  |some o=>refine aM (bN.aaH.live _ _ e) λ o' z=>?_;rw [mP] at z;cases z
 have fg:I≠a:=λ q=>by have:=iw.aar;rw [q] at mP;rw [show aj.heap.get? a=_ from Js] at mP;cases mP
 have back:∀{gy:eV} {aa_ K:XW} {s':Shared},(∀b∈aa_.fp,b∈(ZH 0).fp)->YQ sc ak F aw az aa gy (K.and aa_) (I::S) s'->YQ sc ak F aw az aa gy aa_ S s':=λ hh g=>
  g.shrink (λ b hb=>Ym _ hb) f.sub f.Zt.loc (λ n hn kk b e=>by refine bU (f.Zt.gb n hn kk) λ c v a1 a2 ξ=>?_;rw [a1] at e;cases e;exact a2) g.jp.2 λ b hb=>⟨bC _ hb,(f.aar b (hh b hb)).1⟩
 let I':Nat->Shared->Prop:=λ m s'=>∃i,i≤xs.length/\m=xs.length - i/\YQ sc ak F aw az aa (f9 i) ((Jq I a i).and (ZH i)) (I::S) s'
 refine codeAny_mono (codeAny_forLoop_any (R:=λ r s'=>match r with
   | .ok .next=>YQ sc ak F aw az aa lT aap S s'
   | .ok (.ret v)=>Q (.ret v) s'
   |_=>False) I' (λ m s' Vm=>?_) xs.length ⟨0,Nat.zero_le _,rfl,bh⟩) λ r s' hr=>?_
 ·refine cZ Vm λ i hi fR ZL=>?_;subst fR;refine bu (hl i _ _ ZL.jp.2) λ vs n aaS tl=>?_;have hsz:vs.size=xs.length:=by have:=tl.length;rwa [Array.length_toList] at this
  have W:=Walks.list (prog:=XX) (w:=w) hh I a fg.symm vs;rw [hsz] at W;have RT:∀i,I∉(ZH i).fp:=λ i m=>by have:=(bN.aar I (kX i I m)).1;exact O7 this
  by_cases c4:i<xs.length
  ·refine W.item i s' _ _ c4 ⟨ZL.jp.1,ed aaS⟩ λ v h' tk pv ip bq=>?_;have tH:∀b o,b∉[I]->s'.heap.get? b=some o->h'.get? b=some o:=bq;have D8:∃o,h'.get? I=some o:=by refine aK ip.1 λ o e ξ=>?_;exact ⟨o,e⟩
   refine aM (Ei tl c4 (by rw [Array.getElem?_toList];exact pv)) λ t gG=>?_;subst gG;refine cZ ip.1 λ oI eI RU O9=>?_;refine uB ?_;refine sj (s:={s' with heap:=h',toks:=tk}) (c:="list_iterator") (o:=oI) eI RU bH ?_ (.name _ _);have dS:XN (hide (I::S) s'.heap) (hide (I::S) h'):=b5 λ b o n e=>bq b o (λ m=>n (by rw [bj m];exact di)) e;have abf:YQ sc ak F aw az aa (f9 i) ((Jq I a (i+1)).and (ZH i)) (I::S) {s' with heap:=h',toks:=tk}:=by refine ZL.Bl (D:=[I]) (λ b m=>bL _ m) tH (λ b m=>by rw [bj m];exact D8) ⟨⟨oI,eI,RU,O9⟩,?_⟩ λ d hd=>hd;exact (ZH i).st dS ao ao (λ b hb o e=>bq b o (λ m=>RT i (by rw [<-bj m];exact hb)) e) ZL.jp.2
   refine wpAny_assign_Name (abf.store (P:=is xs[i]) hz (bz.mpr ⟨t,rfl⟩) λ aH dC=>?_);refine uB (Zh (step i c4 (Jq I a (i+1)) (I::S) aH (λ b m=>by rw [bj m];exact O7) dC) (λ fl bS q=>?_) dp);have Im:YQ sc ak F aw az aa (f9 (i+1)) ((Jq I a (i+1)).and (ZH (i+1))) (I::S) bS->∃m,m<xs.length - i/\I' m bS:=λ fB=>
    ⟨xs.length - (i+1),Nat.sub_lt_sub_left c4 (Nat.lt_succ_self i),i+1,c4,rfl,fB⟩
   cases fl with
   |next=>exact Im q
   |cont=>exact Im q
   |brk=>exact back Om q
   |ret v=>exact q
  ·have:i=xs.length:=Nat.le_antisymm hi (Nat.le_of_not_lt c4);subst this;refine W.done s' _ _ ⟨ZL.jp.1,ed aaS⟩ λ h' tk bq=>?_;refine wpAny_execs_nil (fin _ _ (YQ.drop ZL (back (λ b hb=>kX _ b hb) ZL) bq (λ m=>?_) (λ n b e m=>?_) (λ b hb m=>?_) λ b m=>?_))
   ·refine aM bN.Zt.ns λ mm gi=>?_;refine cY gi λ o ξ ξ e ξ=>?_;rw [bj m,mP] at e;cases e
   ·refine aM (bN.cl n b e) λ o e=>?_;rw [bj m,mP] at e;cases e
   ·rw [bj m] at hb;exact O7 hb
   ·rw [bj m];exact O8
 ·cases r with
  |ok fl=>
   cases fl with
   |next=>exact k s' hr
   |ret v=>exact hr
   |_=>exact hr.elim
  |error e=>exact hr.elim
noncomputable def o4 (σ:bQ) (en:Ent):YJ:=⟨λ h v=>v= .ref en.a/\ck σ h,λ k ⟨e,x⟩=>⟨e,x.gV λ b ξ o q=>k b o q⟩⟩
def qH (f:YQ sc ak F aw az aa ρ J S s) (hz:ρ.lookup z=some (lit (.ref en.a))) (hj:ck σ s.heap):XK sc ((z,o4 σ en)::ρ) (iI S σ.all) aa s.heap:=
 (f.open σ.all).word hz ⟨rfl,hj.gV λ b m o e=>kr m e⟩
def Al (he:en∈σ.es) (hz:Ev A sc ρ (.Name z YA) (o4 σ en)):Ev A sc ρ (.Attribute (.Name z YA) "npredecessors" ar) (is en.nd.np):=λ S aa s c=>
 Attribute_name (hz.use c λ u aj k₁ c₁ aZ=>by refine cO aZ λ cX X=>?_;subst cX;have N:=X.info en he;refine cS N.at_ λ t1 t2 ha=>?_;exact kq (p:=84) (c₁.top.k.keeps ao) (ao _ _ ha) ⟨_,ao _ _ N.rH⟩ abl abl abl yS rfl rfl ⟨aL k₁ (dG _ _),bD.mpr ⟨_,rfl⟩⟩)
def yY (he:en∈σ.es) (hz:Ev A sc ρ (.Name z YA) (o4 σ en)):Ev A sc ρ (.Attribute (.Name z YA) "successors" ar) (lit (.ref en.b)):=λ S aa s c=>
 Attribute_name (hz.use c λ u aj k₁ c₁ aZ=>by refine cO aZ λ d6 X=>?_;subst d6;have N:=X.info en he;refine cS N.at_ λ t1 t2 ha=>?_;exact kq (p:=85) (c₁.top.k.keeps ao) (ao _ _ ha) ⟨_,ao _ _ N.rH⟩ abl abl abl Jd rfl rfl ⟨aL k₁ (dG _ _),rfl⟩)
def Jt (he:en∈σ.es) (hz:Ev A sc ρ (.Name z YA) (o4 σ en)):Ev A sc ρ (.Attribute (.Name z YA) "node" ar) (is en.nd.node):=λ S aa s c=>
 Attribute_name (hz.use c λ u aj k₁ c₁ aZ=>by refine cO aZ λ ff X=>?_;subst ff;have N:=X.info en he;refine cS N.at_ λ t1 t2 ha=>?_;exact kq (p:=83) (c₁.top.k.keeps ao) (ao _ _ ha) ⟨_,ao _ _ N.rH⟩ abl abl abl NL rfl rfl ⟨aL k₁ (dG _ _),bz.mpr ⟨_,rfl⟩⟩)
def BU {k:Int} {t:Tok} {g:abp->abp} (hg:∀n,(g n).node=n.node) (Vn:g en.nd=gq k en.nd) (f:YQ sc ak F aw az aa ρ J S s) (L:jY J aa_ σ (σ.cz en.nd.node g)) (he:en∈σ.es) (q:∀s',YQ sc ak F aw az aa ρ aa_ S s'->XF () s'):
  wpAny (model XX w) A (setAttr (.ref en.a) "npredecessors" (.int k t)) XF E s:=by
 have X:=L.get f.jp;have N:=X.info en he;refine cS N.at_ λ t1 t2 ha=>?_;have gp:[en.a,en.dx,en.b].Nodup:=(X.mQ en he).1;refine p0 (f.cx.top.k.keeps ao) ha ⟨_,N.rH⟩ Jc abl yS bH λ h' tk hs DT=>?_;have NO:h'.get? en.a=some (rG en.dx #[some (.str en.nd.node.s t1),some (.int k t),some (.ref en.b)]):=by rw [DT];exact congrArg (λ z=>some (rG en.dx z)) (FH _ _ _ _)
 have N':jX h' en.a en.dx en.b (g en.nd):=by rw [Vn];exact ⟨⟨t1,t,NO⟩,(hs.2 _ λ q=>(fb (lK gp)) q.symm).trans N.rH,let ⟨vs,n,e,z⟩:=N.XA;⟨vs,n,(hs.2 _ λ q=>(fb (f3 (lK gp))) q.symm).trans e,z⟩⟩
 exact q _ (f.uN L (gH he Ent.mA) hs ⟨_,NO⟩ (X.cz hg he rfl (c:=en.a) Ent.mA hs N'))
noncomputable def fC (n:abp):abp:={n with np:=n.np - 1}
def Ju (f:YQ sc ak F aw az aa ρ J S s) (L:jY J aa_ σ (σ.cz en.nd.node fC)) (he:en∈σ.es) (hz:Ev A sc ρ (.Name z YA) (lit (.ref en.a)))
  (q:∀s',YQ sc ak F aw az aa ρ aa_ S s'->wpAny (model XX w) A (execs aD aa) Q E s'):wpAny (model XX w) A (execs (.AugAssign (.Attribute (.Name z YA) "npredecessors" ap) .Sub (.Constant (.int 1) k cp) ar::aD) aa) Q E s:=by
 refine YF (wpAny_AugAssign_AttributeAny (hz.use f.cx λ v aj k₁ c₁ aZ=>?_));rw [show v= .ref en.a from aZ];have f:=f.keep k₁;have N:=(L.get f.jp).info en he;refine cS N.at_ λ t1 t2 ha=>?_;refine kq (p:=84) (f.cx.top.k.keeps ao) ha ⟨_,N.rH⟩ abl abl abl yS rfl rfl ?_;have f:=f.keep (dG aj (aj.toks+1));refine (bX (A:=A) (i:=1)).use f.cx λ u aA k₂ c₂ cG=>?_;have f:=f.keep k₂;refine aM (bD.mp cG) λ t gG=>?_;subst gG;refine PyProof.Rows.isub_int ?_;have f:=f.keep (dG aA (aA.toks+1));exact BU (g:=fC) (λ ξ=>rfl) rfl f L he q
def Jv {R:Addr} {x:Tx} {mp:Pos} (f:YQ sc ak F aw az aa ρ J S s) (hR:σ.R=some R) (L:jY J aa_ σ {σ with bG:=σ.bG++[x]}) (GY:ρ.lookup z=some (lit (.ref σ.D)))
  (hz:∀gy,Ev A sc ((z,gI σ)::gy) (.Name z YA) (gI σ)) (ha:Ev A sc ρ aS (is x)) (hsz:σ.bG.length<=1000)
  (gP:∀aa:Env,aa.scope.kind= .function->aa.scope.names=sc->swapsWith (.Call (.Attribute (.Attribute (.Name z YA) "_ready_nodes" ap) "append" mp) [aS] [] be) none ar.line aa=pure false)
  (oz:∃pl:Sem Bool,eval (.Call (.Attribute (.Attribute (.Name z YA) "_ready_nodes" ap) "append" mp) [aS] [] be) aa=(do
   let ov<-eval (.Attribute (.Name z YA) "_ready_nodes" ap) aa
   standAt mp.atName
   let (f,first)<-holding [ov] (getMethod ov "append" pl)
   callWith be f first (backTo be (starEach [aS] aa)) []))
  (mw:starEach [aS] aa=(false,eval aS aa)::starEach [] aa) (hp:eT [aS])
  (q:∀s',YQ sc ak F aw az aa ρ aa_ S s'->wpAny (model XX w) A (execs aD aa) Q E s'):wpAny (model XX w) A (execs (.Expr (.Call (.Attribute (.Attribute (.Name z YA) "_ready_nodes" ap) "append" mp) [aS] [] be) ar::aD) aa) Q E s:=by
 have hr:q4 σ.R= .ref R:=by rw [hR];rfl
 have hl:=br;refine jW f.cx gP (eG oz ((p7 (σ:=σ) (hz ρ)).use (fa f GY (L.get f.jp)) λ v aj k₁ c₁ aZ=>λ pl=>?_));rw [show v= .ref R from Eq.trans aZ hr];have f:=f.keep k₁;refine bu ((L.get f.jp).bG R hR) λ vs n aaS tl=>?_;refine getMethod_builtin ⟨_,aaS,rfl⟩ PySem.F.plainAttrs_list PySem.F.slot_list_append PySem.F.type_list_append (λ a q=>by cases q;exact cV _ aaS rfl) ?_;refine eg (hp aa be) (j7 (he:=mw) (ha.use f.cx λ u aA k₂ c₂ cG=>wpAny_items_nil ⟨trivial,?_⟩));have f:=f.keep k₂;refine bu ((L.get f.jp).bG R hR) λ vs n aaS tl=>?_;have e1:=tl.length;rw [Array.length_toList] at e1;refine wpAny_list_append_plain (hsz:=by w_up) ⟨n,aaS⟩ λ h' eF gA=>⟨λ a q=>(nomatch q),?_⟩;refine aM eF λ m' eF=>?_;refine aM (bz.mp cG) λ t fN=>?_;subst fN;refine q _ (f.uN (tk:=aA.toks) L (cW (bQ.XB hR)) gA ⟨_,eF⟩ ((L.get f.jp).FI hR gA eF ?_));rw [Array.toList_push];exact tl.append ⟨⟨t,rfl⟩,trivial⟩
def qd {np kp:Pos} {b:Bool} (f:YQ sc ak F aw az aa ρ J S s) (c:XK sc gy S' aa s.heap) (he:Ev A sc gy e (lit v)) (hx:cw ak sc z=true) (hp:plainIs v .none=true) (hb:(v== .none)=b)
  (hm:behindInMarks .Is (.Constant .none kk kp)=false)
  (h1:b=true->∀s',YQ sc ak F aw az aa ((z,lit v)::ρ) J S s'->wpAny (model XX w) A (execs bM aa) (rn A aa aD Q E) E s')
  (h2:b=false->∀s',YQ sc ak F aw az aa ((z,lit v)::ρ) J S s'->wpAny (model XX w) A (execs orelse aa) (rn A aa aD Q E) E s'):
  wpAny (model XX w) A (execs (.If (.Compare (.NamedExpr (.Name z YA) e np) [.Is] [.Constant .none kk kp] cp) bM orelse ar::aD) aa) Q E s:=by
 refine YF (wpAny_If (wpAny_isTrue_Compare1 (hm:=hm) ?_));show wpAny _ A (do let v<-eval e aa;holding [v] (assign (.Name z YA) aa v);pure v) _ _ s;refine Z4 (he.use c λ u aj k₁ c₁ aZ=>Z4 (XG (wpAny_assign_Name ?_)));rw [show u=v from aZ];refine (f.keep k₁).store (P:=lit v) hx rfl λ aA f=>X5 ?_;refine (ik (A:=A)).use f.cx λ u' aH iq lN k4=>?_;rw [fe.mp k4];refine wpAny_is_plain hp ?_;rw [hb];refine wpAny_truthy_bool ?_;cases b with
 |true=>exact h1 rfl _ (f.keep iq)
 |false=>exact h2 rfl _ (f.keep iq)
def k8 {x:Tx} (hv:∀h,ck σ h->(valueAt (σ.es.map λ e=>(e.nd.node.s,Value.ref e.a)) x.s).getD .none=v) (hz:Ev A sc ρ o (gW σ)) (ha:Ev A sc ρ aS (is x))
  (Pa:∀aa,backTo ar (starEach [aS] aa)=[(false,eval aS aa)])
  (he:∀aa,∃pl:Sem Bool,eval (.Call (.Attribute o "get" bE) [aS] [] ar) aa=(do
   let ov<-eval o aa
   standAt bE.atName
   let (f,first)<-holding [ov] (getMethod ov "get" pl)
   callWith ar f first (backTo ar (starEach [aS] aa)) [])):Ev A sc ρ (.Call (.Attribute o "get" bE) [aS] [] ar) (lit v):=λ S aa s c=>by
 refine eG (he aa) (hz.use c λ u aj k₁ c₁ aZ=>λ pl=>?_);refine cO aZ λ fO X=>?_;subst fO;have hd:=X.dict.at (h':=aj.heap) λ o e=>ao _ _ e;refine getMethod_builtin hd.typeIs PySem.F.plainAttrs_dict PySem.F.slot_dict_get PySem.F.type_dict_get hd.mapOf.noDict ?_;rw [Pa];refine wpAny_dict_get1 (knd:=abh) X.sys (ha.use c₁ λ a8 aA k₂ c₂ cG=>?_);refine aM (bz.mp cG) λ t gN=>?_;subst gN;refine jl x.s _ (km x t) ((hd.at λ o e=>kle k₂ _ _ e).mapOf) (aL (aL k₁ k₂) (dG _ _)) ?_;exact hv _ X
noncomputable def jk (σ:bQ) (y:Tx):Option Ent:=σ.es.find? λ e=>decide (e.nd.node=y)
def sH (σ:bQ) (y:Tx):Int:=((jk σ y).map λ e=>e.nd.np).getD 0
def j1 (σ:bQ) (y:Tx):List Tx:=((jk σ y).map λ e=>e.nd.succ).getD []
def eP (σ:bQ) (y:Tx):bQ:=if sH (σ.cz y fC) y=0 then {(σ.cz y fC) with bG:=σ.bG++[y]} else σ.cz y fC
def dB (σ:bQ) (ys:List Tx):bQ:=ys.foldl eP σ
def ja (σ:bQ) (x:Tx):bQ:={(dB (σ.cz x (gq (-2))) (j1 σ x)) with fin:=σ.fin+1}
def eQ (σ:bQ) (xs:List Tx):bQ:=xs.foldl ja σ
structure gr (σ τ:bQ):Prop where
 D:τ.D=σ.D
 aaX:τ.aaX=σ.aaX
 N:τ.N=σ.N
 R:τ.R=σ.R
 all:τ.all=σ.all
 has:∀e∈σ.es,∃e'∈τ.es,e'.nd.node=e.nd.node/\e'.a=e.a/\e'.b=e.b/\e'.nd.succ=e.nd.succ
 of:∀e'∈τ.es,∃e∈σ.es,e'.nd.node=e.nd.node/\e'.a=e.a/\e'.b=e.b/\e'.nd.succ=e.nd.succ
def gr.refl (σ:bQ):gr σ σ:=⟨rfl,rfl,rfl,rfl,rfl,λ e h=>ph e h rfl rfl rfl rfl,λ e h=>ph e h rfl rfl rfl rfl⟩
def gr.trans {υ:bQ} (x:gr σ τ) (y:gr τ υ):gr σ υ:=
 ⟨y.D.trans x.D,y.aaX.trans x.aaX,y.N.trans x.N,y.R.trans x.R,y.all.trans x.all,
  λ e h=>d5 (x.has e h) λ e1 h1 a1 a2 a3 a4=>d5 (y.has e1 h1) λ e2 h2 b1 b2 XR abw=>⟨e2,h2,b1.trans a1,b2.trans a2,XR.trans a3,abw.trans a4⟩,
  λ e h=>d5 (y.of e h) λ e1 h1 a1 a2 a3 a4=>d5 (x.of e1 h1) λ e2 h2 b1 b2 XR abw=>⟨e2,h2,a1.trans b1,a2.trans b2,a3.trans XR,a4.trans abw⟩⟩
def nR {x:Tx} {g:abp->abp} (h1:∀n,(g n).node=n.node) (h2:∀n,(g n).succ=n.succ):gr σ (σ.cz x g):=by
 refine ⟨rfl,rfl,rfl,rfl,jf,λ e h=>cV _ (List.mem_map.mpr ⟨e,h,rfl⟩) ?_,λ e' h=>?_⟩
 ·split
  ·exact iD (h1 _) rfl rfl (h2 _)
  ·exact iD rfl rfl rfl rfl
 ·refine aK (abQ h) λ e he cX=>?_;subst cX;refine cV e he ?_;split
  ·exact iD (h1 _) rfl rfl (h2 _)
  ·exact iD rfl rfl rfl rfl
def GZ {r:List Tx} (x:gr σ τ):gr σ {τ with bG:=r}:=⟨x.D,x.aaX,x.N,x.R,x.all,x.has,x.of⟩
def G0 {k:Int} (x:gr σ τ):gr σ {τ with fin:=k}:=⟨x.D,x.aaX,x.N,x.R,x.all,x.has,x.of⟩
def G1 (σ:bQ) (y:Tx):gr σ (eP σ y):=by
 unfold eP;split
 ·exact GZ (nR (λ ξ=>rfl) λ ξ=>rfl)
 ·exact nR (λ ξ=>rfl) λ ξ=>rfl
def oG (ys:List Tx):∀σ:bQ,gr σ (dB σ ys):=by
 induction ys with
 |nil=>intro σ;exact gr.refl σ
 |cons y ys ih=>intro σ;exact (G1 σ y).trans (ih _)
def G2 (σ:bQ) (x:Tx):gr σ (ja σ x):=G0 ((nR (g:=gq (-2)) (λ ξ=>rfl) λ ξ=>rfl).trans (oG _ _))
def rK (xs:List Tx):∀σ:bQ,gr σ (eQ σ xs):=by
 induction xs with
 |nil=>intro σ;exact gr.refl σ
 |cons y ys ih=>intro σ;exact (G2 σ y).trans (ih _)
def wL (ys:List Tx):∀σ:bQ,(dB σ ys).fin=σ.fin/\(dB σ ys).bG.length<=σ.bG.length+ys.length:=by
 induction ys with
 |nil=>intro σ;exact ⟨rfl,Nat.le_refl _⟩
 |cons y ys ih=>
  intro σ;refine cO (ih (eP σ y)) λ a b=>?_;have h1:(eP σ y).fin=σ.fin:=by unfold eP;split<;>rfl
  have h2:(eP σ y).bG.length<=σ.bG.length+1:=by
   unfold eP;split
   ·show (σ.bG++[y]).length<=_;rw [gD];exact Nat.le_refl _
   ·show σ.bG.length<=_;w_up
  refine ⟨a.trans h1,?_⟩;show (dB (eP σ y) ys).bG.length<=_;rw [List.length_cons];w_up
def BV {L:List Ent} (hn:(L.map λ e=>e.nd.node).Nodup) (he:en∈L):L.find? (λ e=>decide (e.nd.node=en.nd.node))=some en:=by
 induction L with
 |nil=>cases he
 |cons e l ih=>
  rw [List.map_cons,List.nodup_cons] at hn;rw [List.find?_cons];by_cases q:e.nd.node=en.nd.node
  ·have:e=en:=by
    rcases cF he with rfl|he
    ·rfl
    ·exact absurd (List.mem_map.mpr ⟨en,he,q.symm⟩) hn.1
   simp [this]
  ·have nQ:en∈l:=by
    rcases cF he with rfl|he
    ·exact absurd rfl q
    ·exact he
   simp [q,ih hn.2 nQ]
def yZ (X:ck σ h) (he:en∈σ.es):jk σ en.nd.node=some en:=BV X.nn he
def G3 {ys:List Tx} {j:Nat} (h:j<ys.length):dB σ (ys.take (j+1))=eP (dB σ (ys.take j)) ys[j]:=by unfold dB;rw [List.take_add_one,List.getElem?_eq_getElem h,Option.toList,List.foldl_append];rfl
def wM {ys:List Tx} {j:Nat} (h:j<ys.length):eQ σ (ys.take (j+1))=ja (eQ σ (ys.take j)) ys[j]:=by unfold eQ;rw [List.take_add_one,List.getElem?_eq_getElem h,Option.toList,List.foldl_append];rfl
def j2 (A:Around) (σ:bQ) (R:Addr) (xs:List Tx) (aw:List Addr) (az:Shared):Prop:=∀(hR:σ.R=some R) (abx:cy 1 A) (hz:σ.bG.length<=30) (hx:xs.length<=30) (hs:∀e∈σ.es,e.nd.succ.length<=30/\∀y∈e.nd.succ,∃e'∈σ.es,e'.nd.node=y) (ou:∀i (hi:i<xs.length),∃e∈(eQ σ (xs.take i)).es,e.nd.node=xs[i]/\e.nd.np=-1) (vs:List Value) (T:er (hide aw az.heap)) (fr:∀b∈aw,∃o,az.heap.get? b=some o) (abg:∀b∈(b8 σ).fp,b∈aw) (hJ:(b8 σ).p (hide aw az.heap) az.heap) (p:AllP (hide aw az.heap) (lit (.ref σ.D)::xs.map is) vs),codeAny (model XX w) A (.call (.ref 162) ⟨vs,[]⟩) (λ r s'=>match r with| .ok (.ret v)=>abO (b8 σ).fp az s'/\(b8 (eQ σ xs)).p (hide aw s'.heap) s'.heap/\(is ()).p (hide aw s'.heap) v| .ok _=>False| .error e=>dj e s') az
namespace op_done_code_v
def aau:=ev (U (U (U (U (U j2)))))
def abN:=aau.1.1.1.1.1
def bT:=aau.1.1.1.1.2
def abv:=aau.1.1.1.2
def lV:=aau.1.1.2
def lE:=aau.1.2
def lF:=aau.2
def Zk:j2 abN bT abv lV lE lF:=by
 intro hR abx hz hx hs ou vs T fr abg hJ p;have hl:=br;refine kY (s:=lF) (ρ:=[("self",lit (.ref bT.D)),("nodes",f5 (lV.map is))]) (J:=b8 bT) (F:=(b8 bT).fp) (o:=HN) T fr (by have:=abx.depth;show abN.depth<1000;w_up) (ao _ _ (T.k 162 _ abl)) rfl aaT ⟨161,HM,_,_,rfl,by rfl,rfl,rfl⟩ ["self","nodes"]
  (λ abN Q E k=>wt (a:="self") (p:="nodes") (by rw [lm];w_up) (λ a vs=>by cases vs<;>rfl) lE lF vs abN Q E fr p λ b aj k₁ kZ=>k b aj k₁ (by rw [Zc.names kZ];rfl) kZ) abd abd hJ (λ b m=>⟨abg b m,m⟩) λ aa S s ξ ξ ξ f=>?_
 have aY:=abx.deeper aa;generalize abN.deeper aa=A' at*;refine Zh (E:=dj) ?_ dp eY;have hr:q4 bT.R= .ref abv:=by rw [hR];rfl
 refine nk f (fa (z:="self") f abl f.jp) (b:=false) ?_ nD λ ξ aj f=>?_
 ·exact bg (aV:=lit (.ref abv)) (a6:=is ()) ((p7 af).imp λ ξ ξ q=>by rw [hr] at q;exact q) ik (mZ abl) abl
 refine bf (ku f (fa (z:="self") f abl f.jp) (P:=lit (.ref bT.N)) (Ah af) tP abd aR λ aA f=>?_);have IW:∀b∈bT.all,b∈S:=λ b hb=>(f.aar b hb).1;have RV:∀(τ:bQ) b,τ.all=bT.all->b∈(b8 τ).fp->b∈(b8 bT).fp:=λ τ b q m=>by have m:b∈τ.all:=m;rw [q] at m;exact m
 have sm:∀i,gr bT (eQ bT (lV.take i)):=λ i=>rK _ _;have Pb:∀i,i≤lV.length->(eQ bT (lV.take i)).bG.length<=30+30*i:=by
  intro i;induction i with
  |zero=>intro _;show bT.bG.length<=_;w_up
  |succ i ih=>
   intro hi;have nO:i<lV.length:=hi;rw [wM nO];have:=ih (Nat.le_of_lt nO);generalize LM:eQ bT (lV.take i)=τ at*;have h2:=(wL (j1 τ lV[i]) (τ.cz lV[i] (gq (-2)))).2;have h3:(j1 τ lV[i]).length<=30:=by
    unfold j1;cases hq:jk τ lV[i] with
    |none=>simp
    |some e=>
     have he:=List.mem_of_find?_eq_some hq;refine d5 ((show gr bT τ from LM▸sm i).of e he) λ e0 h0 ξ ξ ξ h4=>?_;show e.nd.succ.length<=30;rw [h4];exact (hs e0 h0).1
   show (dB (τ.cz lV[i] (gq (-2))) (j1 τ lV[i])).bG.length<=_;have h4:(τ.cz lV[i] (gq (-2))).bG.length=τ.bG.length:=rfl;w_up
 refine lC (ai:=lV) (abL:=is) (Ok:=Plain) (β:=λ x=>[("node",is x)]) (f9:=λ ξ=>[("n2i",lit (.ref bT.N)),("self",lit (.ref bT.D))]) (ZH:=λ i=>b8 (eQ bT (lV.take i))) (lT:=[]) (aap:=b8 (eQ bT lV))
  f (ay abl (ay abl bO)) (ki aY.handled af) (.name _ _) (λ ξ=>rfl) (λ b ξ=>bB abd) (λ i b h=>RV _ b (sm i).all h) (λ b h=>RV _ b (by have:=sm lV.length;rw [List.take_length] at this;exact this.all) h) ?_ (λ S' s' f=>by rw [List.take_length] at f;exact f.ek bO) λ bY f=>?_
 ·intro i hi K S' aH hK f;refine Yj λ Q hQ=>?_;have Vo:=wM (σ:=bT) hi;refine cZ (ou i hi) λ en he jB Pc=>?_;have BW:=sm i;have bn:=Pb i (Nat.le_of_lt hi);rw [Vo] at hQ;generalize By:lV[i]=x at*;generalize LM:eQ bT (lV.take i)=τ at*;have j0:∀b∈τ.all,b∉K.fp:=λ b hb m=>hK b m (IW b (by rw [BW.all] at hb;exact hb));have f:=f.ek (gy:=[("node",is x),("n2i",lit (.ref τ.N)),("self",lit (.ref τ.D))]) (by rw [BW.N,BW.D];exact λ ξ ξ h=>h);have X:=f.jp.2;refine qd (v:=.ref en.a) (b:=false) f (qc (σ:=τ) (z:="n2i") f abl X) (k8 (σ:=τ) (x:=x) (λ h X=>by rw [<-jB,mG X.nn he];rfl) af af aR (λ ξ=>⟨_,rfl⟩)) abd abl abl abl nD λ ξ bS f=>?_;refine bf (ku f (qH (σ:=τ) (en:=en) (z:="nodeinfo") f abl f.jp.2) (P:=is en.nd.np) (Al he af) yU abd aR λ bY f=>?_);refine f6 f (b:=false) ?_ nD λ ξ dK f=>?_
  ·have e1:(!decide (en.nd.np=(-1:Int)))=false:=by rw [Pc];rfl
   rw [<-e1];exact bg (aV:=is en.nd.np) (a6:=is (-1:Int)) af ((cI (v:=.int (-1) 261) abd abd abl).imp λ ξ ξ q=>bD.mpr ⟨_,q⟩) (iF aY bH) abl
  refine bf (YF (plainObj_wpAny_Assign_Attribute (hs:=by rfl) ((cI (A:=A') (v:=.int (-2) 264) abd abd abl).use f.cx λ v dT mF wI sD=>(af (A:=A') (P:=lit (.ref en.a)) abl abd abd abd).use wI λ u mS FQ RW vE=>?_)));rw [show v= .int (-2) 264 from sD,show u= .ref en.a from vE];have f:=f.keep (aL mF FQ);refine FP f (jZ (jg (σ':=τ.cz en.nd.node (gq (-2))) jf) j0) he λ gT f=>?_;have RX:j1 τ x=en.nd.succ:=by unfold j1;rw [<-jB,yZ X he];rfl
  have o8:ja τ x={(dB (τ.cz en.nd.node (gq (-2))) en.nd.succ) with fin:=τ.fin+1}:=by unfold ja;rw [RX,jB]
  rw [o8] at hQ;have Ej:gr τ (τ.cz en.nd.node (gq (-2))):=nR (λ ξ=>rfl) λ ξ=>rfl;have RY:(τ.cz en.nd.node (gq (-2))).bG=τ.bG:=rfl;have Pd:(τ.cz en.nd.node (gq (-2))).fin=τ.fin:=rfl;generalize Vp:τ.cz en.nd.node (gq (-2))=υ at*;have Vq:=f.aar;have LO:∀j,gr υ (dB υ (en.nd.succ.take j)):=λ j=>oG _ _;have nN:en.nd.succ.length<=30/\∀y∈en.nd.succ,∃e'∈υ.es,e'.nd.node=y:=by refine d5 (BW.of en he) λ e0 h0 ξ ξ ξ h4=>?_;refine ⟨by rw [h4];exact (hs e0 h0).1,λ y hy=>?_⟩;rw [h4] at hy;refine aK ((hs e0 h0).2 y hy) λ e1 h1 vq=>?_;refine cZ (BW.has e1 h1) λ e2 h2 a1 ξ=>?_;refine cZ (Ej.has e2 h2) λ e3 h3 b1 ξ=>?_;exact cV e3 h3 (b1.trans (a1.trans vq))
  have NP:∀j,∀b∈(dB υ (en.nd.succ.take j)).all,b∉K.fp:=λ j b hb m=>by rw [(LO j).all,Ej.all] at hb;exact j0 b hb m
  have RZ:∀j b,b∈(K.and (b8 (dB υ (en.nd.succ.take j)))).fp->b∈(K.and (b8 υ)).fp:=λ j b m=>by
   rcases bR m with m|m
   ·exact bL _ m
   ·have m:b∈(dB υ (en.nd.succ.take j)).all:=m;rw [(LO j).all] at m;exact bC _ m
  refine d5 (Ej.has en he) λ R0 R1 ξ Vr R2 Vs=>?_;refine LN (a:=en.b) (xs:=en.nd.succ) (z:="successor") (f9:=λ ξ=>[("n2i",lit (.ref τ.N)),("self",lit (.ref τ.D))]) (ZH:=λ j=>K.and (b8 (dB υ (en.nd.succ.take j)))) (lT:=[("n2i",lit (.ref τ.N)),("self",lit (.ref τ.D))]) (aap:=K.and (b8 (dB υ en.nd.succ)))
   aY.handled f (ay abl (ay abl bO)) ?_ (λ ξ=>rfl) (λ j g h q=>?_) abd (λ j b m=>RZ j b m) (λ b m=>RZ en.nd.succ.length b (by rw [List.take_length];exact m)) ?_ (λ S' s' f=>by rw [List.take_length] at f;exact f) λ j3 f=>?_
  ·have c:=qH (σ:=υ) (en:=R0) (z:="nodeinfo") f (by rw [Vr];rfl) f.jp.2;exact (yY (A:=A') (σ:=υ) R1 af).use c λ v s' k ξ p=>⟨by rw [<-R2];exact p,k⟩
  ·refine d5 ((LO j).has R0 R1) λ rL BX ξ ξ Vt Vu=>?_;refine bu ((q.2.info rL BX).XA) λ vs n aaS tl=>?_;rw [Vt,R2] at aaS;rw [Vu,Vs] at tl;exact d8 vs n aaS tl
  ·intro j hj Z5 aaD nS LP f;refine Yj λ Q hQ=>?_;have Vv:=G3 (σ:=υ) hj;refine aK (nN.2 en.nd.succ[j] (List.getElem_mem hj)) λ Vw R3 R4=>?_;have BY:=LO j;refine cZ (BY.has Vw R3) λ rL BX Ek ξ=>?_;have Ek:rL.nd.node=en.nd.succ[j]:=Ek.trans R4;have aaY:=NP j;have Xm:(dB υ (en.nd.succ.take j)).bG.length<=30+30*i+30:=by
    have:=(wL (en.nd.succ.take j) υ).2;have h1:(en.nd.succ.take j).length<=30:=by rw [List.length_take];have:=nN.1;w_up
    rw [RY] at this;w_up
   rw [Vv] at hQ;generalize hy:en.nd.succ[j]=y at*;generalize Vx:dB υ (en.nd.succ.take j)=ζ at*;have FT:∀b∈ζ.all,b∉Z5.fp:=λ b hb m=>LP b m (Vq b (bC _ (show b∈υ.all from BY.all▸hb))).1;have Vy:ζ.bG.length<=1000:=by w_up
   have NQ:ζ.N=τ.N:=BY.N.trans Ej.N;have Jw:ζ.D=τ.D:=BY.D.trans Ej.D;have R5:ζ.R=some abv:=BY.R.trans (Ej.R.trans (BW.R.trans hR));have f:=f.ek (gy:=[("successor",is y),("n2i",lit (.ref ζ.N)),("self",lit (.ref ζ.D))]) (by rw [NQ,Jw];exact λ ξ ξ h=>h);refine ku f (qc (σ:=ζ) (z:="n2i") f abl f.jp.2.2) (P:=lit (.ref rL.a)) (cP (aV:=gW ζ) (a6:=is y) af af (by rw [<-Ek];exact wK BX) rJ PySem.F.slot_dict_getitem.lookup) tP abd aR λ qe f=>?_;have Pe:ζ.cz rL.nd.node fC=ζ.cz y fC:=by rw [Ek]
   refine Ju (en:=rL) (aa_:=Z5.and (K.and (b8 (ζ.cz rL.nd.node fC)))) f (jZ (jZ (jg jf) aaY) FT) BX af λ sI f=>?_;rw [Pe] at f;have R6:gr ζ (ζ.cz y fC):=nR (λ ξ=>rfl) λ ξ=>rfl;refine rW (R6.has rL BX) λ Jx R7 Vz VA ξ=>?_;have NR:Jx.nd.np=sH (ζ.cz y fC) y:=by have:=yZ f.jp.2.2 R7;rw [Vz,Ek] at this;unfold sH;rw [this];rfl
   have f:=f.ek (gy:=[("successor_info",lit (.ref Jx.a)),("successor",is y),("n2i",lit (.ref τ.N)),("self",lit (.ref (ζ.cz y fC).D))]) (by rw [VA,<-NQ];exact λ ξ ξ h=>h);refine nk f (qH (σ:=ζ.cz y fC) (en:=Jx) (z:="successor_info") f abl f.jp.2.2) (b:=decide (Jx.nd.np=0)) (bg (aV:=is Jx.nd.np) (a6:=is (0:Int)) (Al R7 af) bX (iE aY bH) abl) (λ hb qf f=>?_) λ hb qf f=>?_
   ·have h0:sH (ζ.cz y fC) y=0:=by rw [<-NR];simpa using hb
    have Pf:eP ζ y={(ζ.cz y fC) with bG:=(ζ.cz y fC).bG++[y]}:=by unfold eP;rw [if_pos h0];rfl
    rw [Pf] at hQ;have NS:=R6.all;refine Jv (σ:=ζ.cz y fC) (R:=abv) (x:=y) (z:="self") (aa_:=Z5.and (K.and (b8 {(ζ.cz y fC) with bG:=(ζ.cz y fC).bG++[y]}))) f R5 (jZ (jZ (jg rfl) (λ b m=>aaY b (by rw [<-NS];exact m))) (λ b m=>FT b (by rw [<-NS];exact m))) abl (λ ξ=>af) af (show ζ.bG.length<=1000 from Vy) aR ⟨_,rfl⟩ abl aR λ wN f=>?_;refine bf (bf (hQ .next _ (f.ek (ay abl (ay ?_ bO)))));show some (lit (.ref (ζ.cz y fC).D))=_;rw [show (ζ.cz y fC).D=τ.D from Jw]
   ·have h0:¬sH (ζ.cz y fC) y=0:=by rw [<-NR];simpa using hb
    have Pf:eP ζ y=ζ.cz y fC:=by unfold eP;rw [if_neg h0]
    rw [Pf] at hQ;refine bf (bf (hQ .next _ (f.ek (ay abl (ay ?_ bO)))));show some (lit (.ref (ζ.cz y fC).D))=_;rw [show (ζ.cz y fC).D=τ.D from Jw]
  ·have VB:gr υ (dB υ en.nd.succ):=oG _ _;have LQ:(dB υ en.nd.succ).fin=τ.fin:=(wL en.nd.succ υ).1.trans Pd;have R8:∀b∈(dB υ en.nd.succ).all,b∉K.fp:=by have:=NP en.nd.succ.length;rwa [List.take_length] at this
   have Jh:(dB υ en.nd.succ).D=τ.D:=VB.D.trans Ej.D;generalize Vx:dB υ en.nd.succ=ζ at*;refine BT (σ:=ζ) (k:=1) (aa_:=K.and (b8 {ζ with fin:=τ.fin+1})) f (by rw [<-LQ];exact jZ (jg rfl) R8) (by rw [Jh];exact af) bX λ qf f=>?_;refine bf (hQ .next _ (f.ek (ay ?_ (ay ?_ bO))))
   ·rw [<-BW.N];rfl
   ·rw [<-BW.D];rfl
 ·refine bf ⟨f.aaH,(b8 _).st (cT f.sub) ao ao (λ ξ ξ ξ e=>e) f.jp,fe.mpr rfl⟩
end op_done_code_v
def yf {R:Addr} {xs:List Tx} (aw:List Addr) (az:Shared):j2 A σ R xs aw az:=s7 (U (U (U (U (U j2))))) op_done_code_v.Zk (((((A,σ),R),xs),aw),az)
def El (abx:cy 2 A) (T:er (hide S s.heap)) (fr:∀b∈S,∃o,s.heap.get? b=some o):wpAny (model XX w) A (call (.ref 179) [] []) (λ v s'=>Keeps s s'/\∃x dx N,v= .ref x/\(∀b∈[x,dx,N],s.heap.get? b=none)/\ck ⟨x,dx,N,none,[],[],0,0⟩ s'.heap) dj s:=by
 obtain ⟨hh,aai,d,t,os⟩:=s;have X:(KK w.params).In hh:=T.k.keeps ao;refine wpAny_call (make_core (makes_of X OM) (looks_findIn X (name:="__init__") (r:=some (.ref 115)) abl) (λ self=>bind_fn X self abl) (.inl rfl) ?_);generalize hx:hh.objs.size+1=x;generalize jQ:hh.objs.size=dx;have gp:hh.get? dx=none:=get_none (Nat.le_of_eq jQ);have n7:hh.get? x=none:=get_none (by rw [<-hx];exact Nat.le_succ _);have fg:x≠dx:=λ q=>by rw [<-hx,<-jQ] at q;exact Nat.succ_ne_self _ q
 generalize hH:(hh.push emptyDict).push (instObj 179 dx)=H;have k₁:XN hh H:=λ b o e=>by rw [<-hH];exact cN _ (cN _ e)
 have gd:H.get? dx=some emptyDict:=by rw [<-hH,<-jQ];exact cN _ (Heap.get?_push_size _ rfl)
 have Yy:H.get? x=some (instObj 179 dx):=by rw [<-hH,<-hx];have:=Heap.get?_push_size (hh.push emptyDict) (o:=instObj 179 dx) rfl;rwa [Heap.size_push] at this
 have fresh:∀b∈[x,dx]++S,b∈S\/hh.get? b=none:=λ b hb=>by
  rcases bR hb with m|m
  ·exact .inr (uJ (p:=λ b=>hh.get? b=none) n7 gp b m)
  ·exact .inl m
 have T':er (hide ([x,dx]++S) H):=T.mono (dH k₁ fresh);have Ef:∀b∈[x,dx]++S,∃o,H.get? b=some o:=λ b hb=>by
  rcases bR hb with m|m
  ·exact uJ (p:=λ b=>∃o,H.get? b=some o) ⟨_,Yy⟩ ⟨_,gd⟩ b m
  ·refine aM (fr b m) λ o e=>?_;exact ⟨o,k₁ _ _ e⟩
 have YC:jC H 179 x dx (λ ξ=>none):=⟨Yy,Heap.Ns1.of_empty ⟨_,#[],_,gd,rfl,λ e he=>absurd he (by simp),λ ξ=>rfl⟩,fg⟩;have I6:cy 1 (Ed A 179 [] []):=rE abx;have R9:H.get? 108=some MH:=ao _ _ (T'.k 108 _ abl);refine kY (s:=⟨H,aai,d,t,os⟩) (ρ:=[("self",lit (.ref x)),("graph",is ())]) (J:=(fu 179 x dx (λ ξ=>none) []).and Y8) (F:=[x,dx]) (aw:=[x,dx]++S) (o:=MJ) T' Ef (by have:=I6.depth;show (Ed A 179 [] []).depth<1000;w_up) (ao _ _ (T'.k 115 _ abl)) rfl aaT ⟨114,MI,_,_,rfl,by rfl,rfl,rfl⟩ ["self","graph"]
  (λ A Q E k=>?_) abd abd ⟨⟨YC,Within.nil⟩,trivial⟩ (λ b m=>by have m:b∈[x,dx]:=m;exact ⟨bL _ m,m⟩) λ aa mD aA ξ ξ ξ f=>?_
 ·refine Z4 (m:=seqItems? (.ref 108)) ?_;unfold seqItems?;refine Z4 (wpAny_load R9 (X5 ?_));show wpAny _ _ (pure [(("self":Str),Value.ref x),("graph",.none)]) _ _ _;exact X5 (k _ _ (cB _) abl ⟨rfl,rfl,rfl,fe.mpr rfl,trivial⟩)
 generalize Around.deeper _ aa=A' at*;refine Zh (E:=dj) ?_ dp eY;refine uK jV (aa_:=λ v=>(fu 179 x dx (upd (λ ξ=>none) "_node2info" v) ["_node2info"]).and Y8) f af abl (Nat.zero_le _) aR (λ v=>i7 (λ m=>nomatch m)) λ N aH hN Sa f=>?_;have XS:∀{m:Str->Option Value} {ns:List Str} {J:XW},x∈((fu 179 x dx m ns).and J).fp:=bL _ di;have abn:∀{m:Str->Option Value} {ns:List Str} {J:XW},dx∈((fu 179 x dx m ns).and J).fp:=bL _ (Ym _ di);have Sb:N≠x:=λ q=>Sa (by rw [q];exact XS);have Pg:N≠dx:=λ q=>Sa (by rw [q];exact abn);have Jy:dx∉(fW N []).fp:=λ m=>Pg (bj m).symm;refine mz jV (P:=is ()) (aa_:=λ v=>(fW N []).and ((fu 179 x dx (upd (upd (λ ξ=>none) "_node2info" (.ref N)) "_ready_nodes" v) ["_ready_nodes","_node2info"]).and Y8)) f ik af abl (by simp) aR (λ v=>g7 (i7 (λ m=>nomatch m)) Jy) λ kU bS aZ f=>?_;refine mz jV (P:=is (0:Int)) (aa_:=λ v=>(fW N []).and ((fu 179 x dx (upd (upd (upd (λ ξ=>none) "_node2info" (.ref N)) "_ready_nodes" kU) "_npassedout" v) ["_npassedout","_ready_nodes","_node2info"]).and Y8)) f bX af abl (by simp) aR (λ v=>g7 (i7 (λ m=>nomatch m)) Jy) λ FF bY cG f=>?_;refine mz jV (P:=is (0:Int)) (aa_:=λ v=>(fW N []).and ((fu 179 x dx (upd (upd (upd (upd (λ ξ=>none) "_node2info" (.ref N)) "_ready_nodes" kU) "_npassedout" FF) "_nfinished" v) ["_nfinished","_npassedout","_ready_nodes","_node2info"]).and Y8)) f bX af abl (by simp) aR (λ v=>g7 (i7 (λ m=>nomatch m)) Jy) λ WZ dK k4 f=>?_;refine f6 f (b:=false) ?_ nD λ ξ dT f=>?_
 ·refine bg (aV:=is ()) (a6:=is ()) af ik (λ S s a b ξ ξ p q=>?_) abl;rw [fe.mp p,fe.mp q];exact wpAny_isNot_plain abl ⟨cB _,is_bool.mpr rfl⟩
 refine bf (bf ⟨rfl,?_,x,dx,N,rfl,?_,?_⟩)
 ·refine cS f.aaH.same λ BG NJ d6=>?_;subst d6;refine d8 _ _ rfl (λ b o e=>f.aaH.keep b o (λ m=>?_) (k₁ b o e));rw [uJ (p:=λ b=>hh.get? b=none) n7 gp b m] at e;cases e
 ·intro b hb;rcases cF hb with rfl|hb
  ·exact n7
  ·rcases cF hb with rfl|hb
   ·exact gp
   ·rw [bj hb];rcases (f.aar N (bL _ (List.mem_singleton.mpr rfl))).2.2.2 with q|q
    ·rcases cF q with q|q
     ·exact absurd q Sb
     ·exact absurd (bj q) Pg
    ·cases e:hh.get? N with
     |none=>rfl
     |some o=>have:=k₁ _ _ e;rw [this] at q;cases q
 ·refine eU f.jp λ dI wA ξ=>?_;refine uW dI λ jL L hd hk ξ=>?_;refine cO wA λ I Xz=>?_;have hL:L=[]:=by cases L with
   |nil=>rfl
   |cons _ _=>cases hk
  subst hL;rw [fe.mp aZ] at I Xz;refine aM (bD.mp cG) λ t2 ff=>?_;subst ff;refine aM (bD.mp k4) λ t3 fR=>?_;subst fR;exact {
   qT:=pw (l5 fg (l5 Sb.symm pq)) (pw (l5 Pg.symm pq) (pw pq List.nodup_nil))
   mQ:=λ e he=>nomatch he
   sF:=λ e he=>nomatch he
   nn:=List.nodup_nil
   inst:=⟨_,t2,t3,I,λ y hy=>gg (p:=(·∈l0)) bH (gg bH (gg bH (gg bH qV))) y (Xz y hy),by rfl,by rfl,by rfl,by rfl⟩
   sys:=jL
   dict:=hd
   info:=λ e he=>nomatch he
   bG:=λ R hR=>nomatch hR}
noncomputable def nT (σ:bQ) (en:Ent):bQ:={σ with es:=σ.es++[en]}
noncomputable def Ph (a dx b:Addr) (nd:abp):XW:=⟨[a,dx,b],λ ξ h=>jX h a dx b nd,λ ξ ξ ξ k x=>x.keeps k⟩
noncomputable def bQ.pl (σ:bQ):List abp:=σ.es.map λ e=>e.nd
noncomputable def jM (ns:List abp) (x:Tx):List abp:=if ns.any (λ n=>decide (n.node=x)) then ns else ns++[⟨x,0,[]⟩]
structure jE (σ τ:bQ):Prop where
 D:τ.D=σ.D
 aaX:τ.aaX=σ.aaX
 N:τ.N=σ.N
 R:τ.R=σ.R
 bG:τ.bG=σ.bG
 out:τ.out=σ.out
 fin:τ.fin=σ.fin
def jE.refl (σ:bQ):jE σ σ:=⟨rfl,rfl,rfl,rfl,rfl,rfl,rfl⟩
def jE.trans {υ:bQ} (x:jE σ τ) (y:jE τ υ):jE σ υ:=⟨y.D.trans x.D,y.aaX.trans x.aaX,y.N.trans x.N,y.R.trans x.R,y.bG.trans x.bG,y.out.trans x.out,y.fin.trans x.fin⟩
def ck.add {x:Tx} (X:ck σ h) (nx:∀e∈σ.es,e.nd.node≠x) (jB:en.nd.node=x) (ap:en.tO.Nodup) (LR:∀c∈en.tO,c∉σ.all) (hs:Heap.SameBut σ.N h h') (hd:h'.DictOf (abh) σ.N ((σ.es.map λ e=>(e.nd.node.s,Value.ref e.a))++[(x.s,.ref en.a)])) (hN:jX h en.a en.dx en.b en.nd):
  ck (nT σ en) h':=by
 have hB:=X.qT;simp only [bQ.base,List.nodup_cons,List.mem_cons,not_or] at hB;have Sd:σ.N∈σ.base:=bQ.mN;have mem:∀e∈(nT σ en).es,e∈σ.es\/e=en:=λ e he=>by
  rcases bR he with h|h
  ·exact .inl h
  ·exact .inr (bj h)
 exact {
  qT:=X.qT
  mQ:=λ e he=>by
   rcases mem e he with h|rfl
   ·exact X.mQ e h
   ·exact ⟨ap,λ c hc m=>LR c hc (cW m)⟩
  sF:=λ e he e' nQ c hc n8=>by
   rcases mem e he with h|rfl
   ·rcases mem e' nQ with h'|rfl
    ·exact X.sF e h e' h' c hc n8
    ·exact absurd (gH h hc) (LR c n8)
   ·rcases mem e' nQ with h'|rfl
    ·exact absurd (gH h' n8) (LR c hc)
    ·rfl
  nn:=by
   show ((σ.es++[en]).map _).Nodup;rw [List.map_append,List.nodup_append];refine iJ X.nn (by simp) (λ a ha b hb q=>?_);have hb:b=en.nd.node:=by simpa using hb
   refine aK (abQ ha) λ e he cX=>?_;subst cX;exact nx e he (q.trans (hb.trans jB))
  inst:=let ⟨m,t1,t2,i⟩:=X.inst;⟨m,t1,t2,i.inst.keeps λ b o q e=>(hs.2 b λ z=>by
   rcases q with q|q
   ·exact hB.1.2.1 (q.symm.trans z)
   ·exact hB.2.1.1 (q.symm.trans z)).trans e,i.Xz,i.Ag,i.YV,i.po,i.YK⟩
  sys:=X.sys
  dict:=by show h'.DictOf (abh) σ.N ((σ.es++[en]).map _);rw [List.map_append,List.map_singleton,jB];exact hd
  info:=λ e he=>by
   rcases mem e he with h|rfl
   ·exact (X.info e h).keeps λ c hc o q=>(hs.2 c λ z=>(X.mQ e h).2 c hc (z▸Sd)).trans q
   ·exact hN.keeps λ c hc o q=>(hs.2 c λ z=>LR c hc (z▸cW Sd)).trans q
  bG:=λ R hR=>by have qU:σ.R=some R:=hR;refine bu (X.bG R hR) λ vs n e q=>?_;refine d8 vs n ((hs.2 R λ z=>hB.2.2.1 ?_).trans e) q;rw [qU,<-z];simp}
def qg (hz:Ev A sc ρ (.Name z YA) (gI σ)):Ev A sc ρ (.Attribute (.Name z YA) "_node2info" ar) (gW σ):=λ S aa s c=>
 Attribute_name (hz.use c λ u aj k₁ c₁ aZ=>by refine cO aZ λ d6 X=>?_;subst d6;refine jj X.inst λ m t1 t2 I=>?_;exact ko (attr:=none) jV (c₁.top.k.keeps ao) (I.inst.keeps λ b o ξ e=>ao _ _ e) abl abl I.Ag abl ⟨aL k₁ (dG _ _),rfl,X⟩)
def kK (A:Around) (σ:bQ) (x:Tx) (vs:List Value):Prop:=∀{S:List Addr} {s:Shared} (abx:cy 3 A) (hz:σ.es.length<=1000) (T:er (hide S s.heap)) (fr:∀b∈S,∃o,s.heap.get? b=some o) (hS:∀b∈σ.all,b∈S) (X:ck σ s.heap) (p:AllP (hide S s.heap) [lit (.ref σ.D),is x] vs),wpAny (model XX w) A (call (.ref 122) vs []) (λ v s'=>∃σ' en,jE σ σ'/\σ'.pl=jM σ.pl x/\en∈σ'.es/\en.nd.node=x/\v= .ref en.a/\abO σ.all s s'/\ck σ' s'.heap/\(∀b∈σ'.all,b∈σ.all\/s.heap.get? b=none)/\(∀e∈σ.es,e∈σ'.es)) dj s
namespace op_nodeinfo_v
def aau:=ev (U (U (U kK)))
def abN:=aau.1.1.1
def bT:=aau.1.1.2
def xz:=aau.1.2
def Pj:=aau.2
def Zk:kK abN bT xz Pj:=by
 intro S s abx hz T fr hS X p;have hl:=br;refine kI (ρ:=[("self",lit (.ref bT.D)),("node",is xz)]) (J:=b8 bT) (F:=(b8 bT).fp) (o:=ML) T fr abx p abl rfl aaT ⟨121,MK,_,_,rfl,by rfl,rfl,rfl⟩ ["self","node"]
  (pX (λ a b=>by rfl)) abl abd abd X (λ b m=>⟨hS b m,m⟩) λ A' Q' aa mD aA aY i0 hQ ξ ξ ξ f=>?_
 by_cases hx:∃e∈bT.es,e.nd.node=xz
 ·refine aK hx λ en he jB=>?_;refine qd (v:=.ref en.a) (b:=false) f (fa (z:="self") f abl f.jp) (k8 (σ:=bT) (x:=xz) (λ h X=>by rw [<-jB,mG X.nn he];rfl) (qg af) af aR (λ ξ=>⟨_,rfl⟩)) abd abl abl abl nD λ ξ bS f=>?_;refine bf (dO f (P:=lit (.ref en.a)) af λ v bY f p=>?_);refine hQ _ _ ⟨bT,en,jE.refl bT,?_,he,jB,p,f.aaH,f.jp,λ b m=>.inl m,λ e h=>h⟩;unfold jM;rw [if_pos];exact List.any_eq_true.mpr ⟨en.nd,List.mem_map.mpr ⟨en,he,rfl⟩,by simpa using jB⟩
 ·have nx:∀e∈bT.es,e.nd.node≠xz:=λ e he q=>hx ⟨e,he,q⟩;have VC:xz∉bT.es.map λ e=>e.nd.node:=λ m=>let ⟨e,he,q⟩:=abQ m;nx e he q;refine qd (v:=.none) (b:=true) f (fa (z:="self") f abl f.jp) (k8 (σ:=bT) (x:=xz) (λ h X=>by rw [uh VC];rfl) (qg af) af aR (λ ξ=>⟨_,rfl⟩)) abd abl abl abl (λ ξ bS f=>?_) xR;refine YF (wpAny_Assign_two ?_ abl abl);show wpAny _ A' (do callWith _ (<-eval (.Name "_NodeInfo" _) aa) [] (backTo _ (starEach [_] aa)) []) _ _ bS;refine Z4 ((cI (A:=A') (v:=.ref 82) abd abd abl).use f.cx λ v bY qY FD kb=>?_);rw [show v= .ref 82 from kb];refine FG abl LH (Zh ((au (A:=A') (P:=is xz) af aB) _ _ _ bY FD) (λ us dK q=>?_) eY);have f:=f.keep (aL qY q.1);refine aK q.2.one λ u fR pu=>?_;subst fR;refine ⟨f.cx.top.k.keeps ao,Zh (BK (S:=mD) (x:=xz) aY f.cx.top f.cx.b4 pu) (λ v dT q=>?_) eY⟩;obtain ⟨eK,a,dx,b,Se,hn,gp,NA⟩:=q;refine bu eK λ FU Sf Sg mF=>?_;subst Sg;subst Se;have lives:∀c∈[a,dx,b],∃o,FU.get? c=some o:=λ c hc=>by
   rcases cF hc with rfl|hc
   ·refine cS NA.at_ λ ξ ξ e=>?_;exact ⟨_,e⟩
   ·rcases cF hc with rfl|hc
    ·exact ⟨_,NA.rH⟩
    ·rw [bj hc];refine bu NA.XA λ ξ ξ e ξ=>?_;exact ⟨_,e⟩
  have FW:ck bT FU:=f.jp.gV λ c ξ o e=>mF _ _ e;have Sh:∀c∈[a,dx,b],c∉bT.all:=λ c hc m=>by refine aM (f.cx.b4 c (f.aar c m).1) λ o e=>?_;rw [hn c hc] at e;cases e
  have f:=f.step (D:=[]) (N:=[a,dx,b]) (aa_:=(b8 bT).and (Ph a dx b ⟨xz,0,[]⟩)) (tk:=Sf) (λ b m=>nomatch m) (λ b o ξ e=>mF b o e) (λ b m=>nomatch m) hn lives ⟨FW,NA⟩ (λ b m=>bR m);rw [arm_assign_Subscript];refine Z4 (XG ((Ah (σ:=bT) af).use (fa (z:="self") f abl f.jp.1) λ v mS FQ RW vE=>Z4 (XG ((af (A:=A') (P:=is xz) abl abd abd abd).use (f.keep FQ).cx λ u' gT Ft W0 Si=>Z4 (ig (Z4 (XG ?_)))))));rw [show v= .ref bT.N from vE];refine aM (bz.mp Si) λ tx gi=>?_;subst gi;have f:=(f.keep FQ).keep Ft;have FY:=f.jp.1;refine wpAny_setItem_pairs (knd:=abh) (k:=xz.s) (km xz tx) FY.dict (λ h' hd hs=>?_) (by rw [lm];w_up);have fh:stored (bT.es.map λ e=>(e.nd.node.s,Value.ref e.a)) xz.s (.ref a)=(bT.es.map λ e=>(e.nd.node.s,Value.ref e.a))++[(xz.s,.ref a)]:=by
   unfold stored;rw [if_neg];intro q;refine aK (List.any_eq_true.mp q) λ p hp hq=>?_;refine aK (abQ hp) λ e he fN=>?_;subst fN;have Bd:e.nd.node.s=xz.s:=by simpa using hq
   exact nx e he (Tx.lu Bd)
  rw [fh] at hd;have X':ck (nT bT ⟨⟨xz,0,[]⟩,a,dx,b⟩) h':=FY.add (en:=⟨⟨xz,0,[]⟩,a,dx,b⟩) nx rfl gp Sh hs hd f.jp.2;have iP:∀c,c∈(nT bT ⟨⟨xz,0,[]⟩,a,dx,b⟩).all->c∈bT.all\/c∈[a,dx,b]:=λ c m=>by
   rcases bR m with m|m
   ·exact .inl (cW m)
   ·refine aK (List.mem_flatMap.mp m) λ e he hc=>?_;rcases bR he with he|he
    ·exact .inl (gH he hc)
    ·rw [bj he] at hc;exact .inr hc
  have VD:bT.N∈bT.all:=cW bQ.mN;have f:=f.step (D:=[bT.N]) (N:=[]) (aa_:=b8 (nT bT ⟨⟨xz,0,[]⟩,a,dx,b⟩)) (h':=h') (tk:=gT.toks+1) (in1 (bL _ VD)) (λ b o n e=>(hs.2 b λ q=>n (List.mem_singleton.mpr q)).trans e) (in1 (by refine cY hd λ o ξ ξ e ξ=>?_;exact ⟨o,e⟩)) (λ b m=>nomatch m) (λ b m=>nomatch m) X' (λ c m=>.inl (by
   rcases iP c m with q|q
   ·exact bL _ q
   ·exact bC _ q))
  refine wpAny_release ?_;refine wpAny_assign_Name (f.store (z:="result") (P:=lit (.ref a)) abd rfl λ j3 f=>?_);refine bf (dO f (P:=lit (.ref a)) af λ v nS f p=>?_);refine hQ _ _ ⟨nT bT ⟨⟨xz,0,[]⟩,a,dx,b⟩,⟨⟨xz,0,[]⟩,a,dx,b⟩,⟨rfl,rfl,rfl,rfl,rfl,rfl,rfl⟩,?_,bC _ (List.mem_singleton.mpr rfl),rfl,p,f.aaH,f.jp,λ c m=>?_,λ e h=>bL _ h⟩
  ·unfold jM;rw [if_neg]
   ·show (bT.es++[_]).map _=_;rw [List.map_append];rfl
   ·intro q;refine aK (List.any_eq_true.mp q) λ nd hp hq=>?_;refine aK (abQ hp) λ e he jy=>?_;subst jy;exact nx e he (by simpa using hq)
  ·rcases iP c m with q|q
   ·exact .inl q
   ·rcases (f.aar c m).2.2.2 with z|z
    ·exact .inl z
    ·exact .inr z
end op_nodeinfo_v
def Am {x:Tx}:kK A σ x vs:=s7 (U (U (U kK))) op_nodeinfo_v.Zk (((A,σ),x),vs)
def BZ {ai:List ι} {abL:ι->YJ} {β:ι->eV} {ZH:Nat->α->XW} {qh:α}
  (iw:YQ sc ak F aw az aa ρ (ZH 0 qh) S s) (gz:∀n P,(f9 0).lookup n=some P->ρ.lookup n=some P) (hs:jP A sc ρ aG ai abL Ok) (ou:Ok aN) (iG:∀x,foldedSetIterable aG aa x=pure x)
  (ht:∀a∈ai,jn A sc ak aN (abL a) (β a))
  (step:∀i (hi:i<ai.length) (K:XW) S' s' τ,(∀b∈K.fp,b∉(ZH i τ).fp)->YQ sc ak F aw az aa (β ai[i]++f9 i) (K.and (ZH i τ)) S' s'->
   wpAny (model XX w) A (execs bM aa) (λ fl gh=>match fl with
    | .next| .cont=>∃qb o9,(∀b∈S',b∈o9)/\(∀b∈(ZH (i+1) qb).fp,b∈(ZH i τ).fp\/s'.heap.get? b=none)/\YQ sc ak F aw az aa (f9 (i+1)) (K.and (ZH (i+1) qb)) o9 gh
    |_=>False) dj s')
  (k:∀τ S' s',(∀b∈S,b∈S')->YQ sc ak F aw az aa (f9 ai.length) (ZH ai.length τ) S' s'->wpAny (model XX w) A (execs aD aa) Q dj s'):
  wpAny (model XX w) A (execs (.For aN aG bM [] ar::aD) aa) Q dj s:=by
 have f:=iw.ek gz;refine YF (wpAny_For (hs:=iG) (Zh (hs S aa s iw.cx) (λ xv aaq q=>?_) eY));refine cZ q λ aj k₁ kx q=>?_;refine Zh q (λ it aA q=>?_) eY;refine jH q λ k₂ I fp wr St c7 W o6 Ny=>?_;subst c7;replace k₂:=aL kx k₂;have bN:=f.keep k₁;have r8:∀b∈fp,b∉wr->∃o,(hide (wr++S) aA.heap).get? b=some o:=λ b hb hn=>by
  refine aM (W.r8 b hb hn) λ o e=>?_;refine ⟨o,?_⟩;rw [bI,if_neg λ m=>?_]
  ·exact kle k₂ _ _ (ao _ _ e)
  ·rcases bR m with m|m
   ·exact hn m
   ·exact W.out b hb m
 have grow:XN (hide S aj.heap) (hide (wr++S) aA.heap):=dH (kle k₂) λ b hb=>by
  rcases bR hb with m|m
  ·exact .inr (W.new b m)
  ·exact .inl m
 have bh:YQ sc ak F aw az aa (f9 0) ((kj W 0).and (ZH 0 qh)) (wr++S) aA:=bN.yG k₂ W.new (λ b m=>W.live 0 _ o6 b m) (λ b hb=>hb) ⟨o6,r8,grow⟩;let I':Nat->Shared->Prop:=λ m s'=>∃i τ S',i<=ai.length/\m=ai.length - i/\(∀b∈wr++S,b∈S')/\(∀b∈wr,b∉(ZH i τ).fp)/\YQ sc ak F aw az aa (f9 i) ((kj W i).and (ZH i τ)) S' s';have uB:∀{α:Type} {t:Sem α} {Q:α->Shared->Prop} {E:Value->Shared->Prop} {s:Shared},wpAny (model XX w) A t Q dj s->wpAny (model XX w) A t Q E s:=λ h=>Zh h dp eY;refine codeAny_mono (codeAny_forLoop_any (R:=λ r s'=>match r with
   | .ok .next=>∃τ S',(∀b∈S,b∈S')/\YQ sc ak F aw az aa (f9 ai.length) (ZH ai.length τ) S' s'
   |_=>False) I' (λ m s' hI=>?_) ai.length ⟨0,qh,wr++S,Nat.zero_le _,rfl,λ b hb=>hb,λ b hb m=>?_,bh⟩) λ r s' hr=>?_
 ·obtain ⟨i,τ,S',hi,rfl,lA,Jz,ZL⟩:=hI;by_cases c4:i<ai.length
  ·refine uB (Zh (W.turn i c4 aN ou s' S' (λ v aA=>wpAny (model XX w) A (assign aN aa v) (λ ξ aA=>wpAny (model XX w) A (execs bM aa) (λ f aH=>match f with
      | .next| .cont=>∃m,m<ai.length - i/\I' m aH
      |_=>False) dj aA) dj aA) ZL.jp.1.1 ZL.jp.1.2.2 (λ b m=>lA b (bL _ m)) ZL.cx.b4 λ v h' tk hv ip bq=>?_) (λ r aA q=>?_) dp)
   ·have dS:XN (hide S' s'.heap) (hide S' h'):=b5 λ b o n e=>bq b o (λ m=>n (lA b (bL _ m))) e;have abf:YQ sc ak F aw az aa (f9 i) ((kj W (i+1)).and (ZH i τ)) S' {s' with heap:=h',toks:=tk}:=by
     refine ZL.Bl (D:=wr) (λ b m=>bL _ m) bq (λ b m=>W.live _ _ ip b m) ⟨⟨ip,λ b hb hn=>?_,ZL.jp.1.2.2.trans dS⟩,?_⟩ λ d hd=>hd
     ·refine aM (ZL.jp.1.2.1 b hb hn) λ o e=>?_;exact ⟨o,dS _ _ e⟩
     ·exact (ZH i τ).st dS ao ao (λ b hb o e=>bq b o (λ m=>Jz b m hb) e) ZL.jp.2
    refine ht _ (List.getElem_mem c4) (f9 i) S' aa _ v _ _ abf.cx abf.Zt hv λ aH vN lN Bo vO=>?_;have dC:=abf.kept vN lN Bo vO;refine Zh (step i c4 (kj W (i+1)) S' aH τ Jz dC) (λ fl bS q=>?_) dp;cases fl with
    |next=>
     refine bU q λ qb o9 h1 h2 fB=>?_;refine ⟨ai.length - (i+1),Nat.sub_lt_sub_left c4 (Nat.lt_succ_self i),i+1,qb,o9,c4,rfl,λ b hb=>h1 b (lA b hb),λ b hb m=>?_,fB⟩;rcases h2 b m with z|z
     ·exact Jz b hb z
     ·refine aM (W.live _ _ dC.jp.1.1 b hb) λ o e=>?_;rw [e] at z;cases z
    |cont=>
     refine bU q λ qb o9 h1 h2 fB=>?_;refine ⟨ai.length - (i+1),Nat.sub_lt_sub_left c4 (Nat.lt_succ_self i),i+1,qb,o9,c4,rfl,λ b hb=>h1 b (lA b hb),λ b hb m=>?_,fB⟩;rcases h2 b m with z|z
     ·exact Jz b hb z
     ·refine aM (W.live _ _ dC.jp.1.1 b hb) λ o e=>?_;rw [e] at z;cases z
    |brk=>exact q.elim
    |ret v=>exact q.elim
   ·obtain ⟨v,rfl,q⟩:=q;exact uB (Zh q (λ ξ aH q=>uB (Zh q (λ ξ bS q=>uB (Zh q (λ fl bY q=>by cases fl<;>first|exact q|exact q.elim) dp)) dp)) dp)
  ·have:i=ai.length:=Nat.le_antisymm hi (Nat.le_of_not_lt c4);subst this;refine W.done s' _ _ ZL.jp.1.1 λ h' tk bq=>?_;have dS:XN (hide S' s'.heap) (hide S' h'):=b5 λ b o n e=>bq b o (λ m=>n (lA b (bL _ m))) e;have sJ:∀b,b∈S'->b∉wr->b∈S'.filter λ b=>!wr.contains b:=λ b h1 h2=>List.mem_filter.mpr ⟨h1,by simpa using h2⟩;have ud:∀b∈S'.filter λ b=>!wr.contains b,b∉wr:=λ b h1 h2=>by have:=(aa7 h1).2;simp at this;exact this h2
   have JA:∀b∈wr,∀o,az.heap.get? b≠some o:=λ b hb o e=>by refine aM (bN.aaH.live _ _ e) λ o' z=>?_;rw [W.new b hb] at z;cases z
   have JB:aa.locals∉wr:=λ m=>by refine aM bN.Zt.ns λ mm gM=>?_;refine cY gM λ o ξ ξ e ξ=>?_;rw [W.new _ m] at e;cases e
   have JC:∀n b,aa.cells.lookup n=some b->b∉wr:=λ n b e m=>by refine aM (bN.cl n b e) λ o z=>?_;rw [W.new b m] at z;cases z
   have JD:∀b∈aw,b∉wr:=λ b hb m=>by refine aM (bN.cx.b4 b (f.sub b hb)) λ o' e'=>?_;rw [W.new b m] at e';cases e'
   have f1:YQ sc ak F aw az aa (f9 ai.length) ((kj W ai.length).and (ZH ai.length τ)) (wr++S'.filter λ b=>!wr.contains b) s':=
    ZL.shrink (λ b hb=>by
     rcases bR hb with m|m
     ·exact lA b (bL _ m)
     ·exact (aa7 m).1) (λ b hb=>bC _ (sJ b (ZL.sub b hb) (JD b hb))) (bC _ (sJ _ ZL.Zt.loc JB)) (λ n hn kk b e=>by
     refine bU (ZL.Zt.gb n hn kk) λ c v a1 a2 ξ=>?_;rw [a1] at e;cases e;exact bC _ (sJ _ a2 (JC n _ a1))) ZL.jp λ b hb=>⟨hb,by
     by_cases m:b∈wr
     ·exact bL _ m
     ·exact bC _ (sJ b (ZL.aar b hb).1 m)⟩
   have f0:YQ sc ak F aw az aa (f9 ai.length) (ZH ai.length τ) (S'.filter λ b=>!wr.contains b) s':=
    f1.shrink (λ b hb=>bC _ hb) (λ b hb=>sJ b (ZL.sub b hb) (JD b hb)) (sJ _ ZL.Zt.loc JB) (λ n hn kk b e=>by refine bU (ZL.Zt.gb n hn kk) λ c v a1 a2 ξ=>?_;rw [a1] at e;cases e;exact sJ _ a2 (JC n _ a1)) f1.jp.2 λ b hb=>⟨bC _ hb,sJ b (ZL.aar b (bC _ hb)).1 λ m=>Jz b m hb⟩
   refine wpAny_execs_nil ⟨τ,S'.filter λ b=>!wr.contains b,λ b hb=>sJ b (lA b (bC _ hb)) λ m=>?_,YQ.drop f1 f0 bq JB JC ud λ b m=>?_⟩
   ·refine aM (bN.cx.b4 b hb) λ o' e'=>?_;rw [W.new b m] at e';cases e'
   ·cases e:az.heap.get? b with
    |none=>rfl
    |some o=>exact absurd e (JA b m o)
 ·refine aM (bN.cx.b4 b (f.aar b m).1) λ o' e'=>?_;rw [W.new b hb] at e';cases e'
 ·cases r with
  |ok fl=>
   cases fl with
   |next=>refine bu hr λ τ S' h1 h2=>?_;exact k τ S' s' h1 h2
   |_=>exact hr.elim
  |error e=>exact hr.elim
def FZ {ai:List ι} {abL:ι->YJ} {β:ι->eV} {ZH:Nat->α->XW} {qh:α}
  (iw:YQ sc ak F aw az aa ρ (ZH 0 qh) S s) (gz:∀n P,(f9 0).lookup n=some P->ρ.lookup n=some P) (hs:jP A sc ρ aG ai abL Ok) (ou:Ok aN) (iG:∀x,foldedSetIterable aG aa x=pure x)
  (ht:∀a∈ai,jn A sc ak aN (abL a) (β a))
  (step:∀i (hi:i<ai.length) (K:XW) S' s' τ,(∀b∈K.fp,b∉(ZH i τ).fp)->YQ sc ak F aw az aa (β ai[i]++f9 i) (K.and (ZH i τ)) S' s'->
   wpAny (model XX w) A (execs bM aa) (λ fl gh=>match fl with
    | .next=>∃qb o9,(∀b∈S',b∈o9)/\(∀b∈(ZH (i+1) qb).fp,b∈(ZH i τ).fp\/s'.heap.get? b=none)/\YQ sc ak F aw az aa (f9 (i+1)) (K.and (ZH (i+1) qb)) o9 gh
    |_=>False) dj s')
  (k:∀τ S' s',(∀b∈S,b∈S')->YQ sc ak F aw az aa (f9 ai.length) (ZH ai.length τ) S' s'->wpAny (model XX w) A (execs aD aa) Q dj s'):
  wpAny (model XX w) A (execs (.For aN aG bM [] ar::aD) aa) Q dj s:=
 BZ iw gz hs ou iG ht (λ i hi K S' s' τ hK f=>Zh (step i hi K S' s' τ hK f) (λ fl gh q=>by cases fl<;>first|exact q|exact q.elim) dp) k
def An (t r:Tx):Bool:=
 let i:=(Txt.rfind t.s aF.s+1).toNat
 let hd:=t.take i
 let m:Tx:=⟨List.replicate hd.cs.length '/'⟩
 decide (Txt.rfind t.s aF.s+1=(i:Int))&&!hd.cs.isEmpty&&decide (t.cs.length<=100)&&decide (r.cs.length<=100)&&
  decide ((if (((hd.cs.length:Nat):Int)==1||aF.cs.length==0)=true then aF.s else ⟨(List.replicate ((hd.cs.length:Nat):Int).toNat aF.s.cps).foldl (·++·) #[]⟩)=m.s)&&
  (if hd=m then decide (r=hd) else decide (Txt.rstripChars hd.s aF.s=r.s))
def um {t r:Tx} (hd:An t r=true) (abx:cy 2 A):fJ A (.ref 291) [is t] (is r):=by
 have hl:=br;unfold An at hd;simp only [Bool.and_eq_true,decide_eq_true_eq] at hd;generalize hi:(Txt.rfind t.s aF.s+1).toNat=i at hd;obtain ⟨⟨⟨⟨⟨h1,h2⟩,h3⟩,h4⟩,h5⟩,h6⟩:=hd;have abg:(t.take i).cs.length<=100:=by show (t.cs.take i).length<=_;rw [List.length_take];w_up
 have nG:(t.take i).cs.isEmpty=false:=by simpa using h2
 have h8:1<=(t.take i).cs.length:=by
  have:(t.take i).cs≠[]:=by intro q;rw [q] at nG;cases nG
  exact List.length_pos_iff.mpr this
 refine ju (n:=1) (ρ:=[("p",is t)]) (o:=M5) abl rfl aaT ⟨290,M4,_,_,rfl,by rfl,rfl,rfl⟩ abx (mY λ v=>by rfl) ["p"] rfl abd abd ?_;intro aw az aa S s' A' aY f;refine aU f (P:=is t) (ba (f:=.ref 256) (YN:=[is t]) cI (au af aB) aR ⟨_,_,by rfl,rfl⟩ (kn aY)) abd aR λ aj f=>?_;refine aU f (P:=is aF) (ba (f:=.ref 270) (YN:=[is t]) cI (au af aB) aR ⟨_,_,by rfl,rfl⟩ (ua aY)) abd aR λ aA f=>?_;refine aU f (P:=is ((i:Nat):Int)) (by rw [<-h1];exact c6 (g4 (gZ:=is t) (YN:=[is aF]) af (my PySem.F.slot_str_rfind PySem.F.type_str_rfind) (au af aB) aR trivial GN (λ ξ=>⟨_,rfl⟩)) bX pD) abd aR λ aH f=>?_;refine aU f (P:=is (t.take i)) (cP (aV:=is t) (a6:=ef none (some ((i:Nat):Int)) none) af (fq cR (eN af) cR) (pZ (by w_up)) rk PySem.F.slot_str_getitem.lookup) abd aR λ bS f=>?_;refine f6 f (b:=(!(t.take i).cs.isEmpty&&((!decide (t.take i=⟨List.replicate (t.take i).cs.length '/'⟩))&&true))) ?_ (λ h bY f=>?_) (λ h bY f=>?_)
 ·refine fo (gm (cM af (ri (by w_up)) aR) λ ξ=>gm (bg (aV:=is (t.take i)) (a6:=is (⟨List.replicate (t.take i).cs.length '/'⟩:Tx)) af (c6 (aV:=is aF) (a6:=is (((t.take i).cs.length:Nat):Int)) af (ba (f:=.builtin "len") (YN:=[is (t.take i)]) aQ (au af aB) aR trivial (wo (by w_up))) (D0 (by w_up) (by w_up) bH h5 (by rw [List.length_replicate];w_up))) (iF aY bH) rfl) λ ξ=>g9)
 ·have fg:¬t.take i=⟨List.replicate (t.take i).cs.length '/'⟩:=by simp [nG] at h;exact h
  rw [if_neg fg] at h6;refine aU f (P:=is r) (g4 (gZ:=is (t.take i)) (YN:=[is aF]) af (my PySem.F.slot_str_rstrip PySem.F.type_str_rstrip) (au af aB) aR trivial (DV (by simpa using h6) (by w_up)) (λ ξ=>⟨_,rfl⟩)) abd aR λ dK f=>?_;exact bf (dO f (P:=is r) af λ v aH f' p=>f'.gc (F:=[]) p)
 ·have he:t.take i=⟨List.replicate (t.take i).cs.length '/'⟩:=by simp [nG] at h;exact h
  rw [if_pos he] at h6;have hr:r=t.take i:=by simpa using h6
  rw [hr];exact bf (dO f (P:=is (t.take i)) af λ v aH f' p=>f'.gc (F:=[]) p)
noncomputable abbrev dot:Tx:=⟨['.']⟩
noncomputable abbrev k9:Tx:=⟨['.','.']⟩
def gf (bc:List Tx) (c:Tx):List Tx:=
 if (c.cs.isEmpty||decide (c=dot))=true then bc
 else if (!decide (c=k9)||decide (bc.getLast?=some k9))=true then bc++[c] else bc.dropLast
def fD (cs:List Tx):List Tx:=cs.foldl gf []
def Ao:∀(cs:List Tx) (bc:List Tx),(cs.foldl gf bc).length<=bc.length+cs.length:=by
 intro cs;induction cs with
 |nil=>intro bc;simp
 |cons c cs ih=>
  intro bc;have:=ih (gf bc c);have h1:(gf bc c).length<=bc.length+1:=by
   unfold gf;split
   ·w_up
   ·split
    ·simp
    ·rw [List.length_dropLast];w_up
  rw [List.foldl_cons,List.length_cons];w_up
def Aq {t:List Char} {cL:List Tx} {j:Tx} (abx:cy 3 A) (ht:t.length<=1000) (hc:(t.take 1==['/'])=false) (hs:Txt.split (Tx.mk t).s aF.s=cL.map Tx.s) (hn:cL.length<=1000) (qS:∀c∈cL,c.cs.length<=1000)
  (hj:Txt.join aF.s ((fD cL).map Tx.s)=j.s) (ou:JoinOk aF.s ((fD cL).map Tx.s)=true) (Sj:j.cs.length<=1000):fJ A (.ref 298) [is (Tx.mk ('/'::t))] (is (aF++j)):=by
 have hl:=br;refine ju (n:=2) (ρ:=[("path",is (Tx.mk ('/'::t)))]) (o:=M7) abl rfl aaT ⟨297,M6,_,_,rfl,by rfl,rfl,rfl⟩ abx (mY λ v=>by rfl) ["path"] rfl abd abd ?_;intro aw az aa S s' A' aY f;refine aU f (P:=is (Tx.mk ('/'::t))) (ba (f:=.ref 256) (YN:=[is (Tx.mk ('/'::t))]) cI (au af aB) aR ⟨_,_,by rfl,rfl⟩ (kn (aY.less (by w_up)))) abd aR λ aj f=>?_;refine f6 f (b:=false) ?_ nD λ ξ aA f=>?_
 ·refine cM ?_ gk aR;exact ba (f:=.builtin "isinstance") (YN:=[is (Tx.mk ('/'::t)),lit (.type "bytes")]) aQ (au af (au aQ aB)) aR trivial iN
 refine aU f (P:=is aF) (cD _ abl) abd aR λ aH f=>?_;refine aU f (P:=is dot) (cD _ abl) abd aR λ bS f=>?_;refine aU f (P:=is k9) (cD _ abl) abd aR λ bY f=>?_;refine bf (f6 f (b:=false) ?_ nD λ ξ dK f=>?_)
 ·refine l7 (b:=true) ?_;exact cM (P:=is (Tx.mk ('/'::t))) af (ri (by show t.length+1<=_;w_up)) aR
 refine bf (vG f (W:=is (X7.mk (Tx.mk []) aF (Tx.mk t))) (β:=[("path",is (Tx.mk t)),("initial_slashes",is aF),("_",is (Tx.mk []))]) (ba (f:=.ref 284) (YN:=[is (Tx.mk ('/'::t))]) cI (au af aB) aR ⟨_,_,by rfl,rfl⟩ (ya aY (by w_up) hc))
  (jn.conv (mh (xs:=[(_,_),(_,_),(_,_)]) (YN:=[is (Tx.mk []),is aF,is (Tx.mk t)]) aY.handled rfl abd) λ ξ ξ=>Dg.mp) abl abl λ dT f=>?_)
 refine aU f (P:=is cL) (g4 (gZ:=is (Tx.mk t)) (YN:=[is aF]) af (my PySem.F.slot_str_split PySem.F.type_str_split) (au af aB) aR trivial (tE hs rfl (by show t.length<=_;w_up) (by w_up)) (λ ξ=>⟨_,rfl⟩)) abd aR λ mS f=>?_;have gz:=f.sub;refine rr f abd aR λ D gT e9 pU f=>?_;have h0:D∉aw:=λ m=>e9 (gz D m);refine lC (ai:=cL) (abL:=is) (Ok:=Plain) (β:=λ b=>[("comp",is b)]) (f9:=λ i=>[("new_comps",lit (.ref D)),("sep",is aF),("dot",is dot),("dotdot",is k9),("initial_slashes",is aF)]) (ZH:=λ i=>(dc D ((fD (cL.take i)).map is)).and Y8)
  (lT:=[("new_comps",lit (.ref D)),("sep",is aF),("dot",is dot),("initial_slashes",is aF)]) (aap:=(dc D ((fD cL).map is)).and Y8)
  f (ay abl (ay abl (ay abl (ay abl (ay abl bO))))) (bZ aY.handled af) (.name _ _) (λ ξ=>rfl) (λ b ξ=>bB abd) (λ ξ ξ h=>h) (λ ξ h=>h) ?_ (λ S' s' f=>by rw [List.take_length] at f;exact f.ek (ay abl (ay abl (ay abl (ay abl bO))))) λ j3 f=>?_
 ·intro i hi K S' aA hK f;refine Yj λ Q hQ=>?_;have sK:D∉K.fp:=λ m=>hK D m di;have Xn:=qS _ (List.getElem_mem hi);have Sk:(fD (cL.take i)).length<=1000:=by have:=Ao (cL.take i) [];rw [List.length_take] at this;show (List.foldl gf [] (cL.take i)).length<=_;simp at this;w_up
  have hj:fD (cL.take (i+1))=gf (fD (cL.take i)) cL[i]:=by unfold fD;rw [List.take_add_one,List.getElem?_eq_getElem hi,List.foldl_append];rfl
  generalize VE:cL[i]=c at*;generalize Lz:fD (cL.take i)=bc at*;refine f6 f (b:=(!(!c.cs.isEmpty)||(decide (c=dot)||false))) ?_ (λ h aH f=>?_) (λ h aH f=>?_)
  ·exact fo (iL (l7 (cM (P:=is c) af (ri (by w_up)) aR)) λ ξ=>iL (bg (aV:=is c) (a6:=is dot) af af (iE aY bH) rfl) λ ξ=>jK)
  ·have e:gf bc c=bc:=by unfold gf;rw [if_pos (by simpa using h)]
   refine Fv (hQ .cont _ ?_);show YQ _ _ _ _ _ _ _ (K.and ((dc D ((fD (cL.take (i+1))).map is)).and Y8)) S' aH;rw [hj,e];exact f.ek (ay abl (ay abl (ay abl (ay abl (ay abl bO)))))
  ·have fg:(c.cs.isEmpty||decide (c=dot))=false:=by simpa using h
   have vw:=f.view (z:="new_comps") (YN:=bc.map is) (D:=D) abl f.jp.2.1;refine bf (nk f vw (b:=(!decide (c=k9)||((!(!aF.cs.isEmpty)&&true)||((!bc.isEmpty&&(decide (bc.getLast?=some k9)&&true))||false)))) ?_ (λ h' bS f=>?_) (λ h' bS f=>?_))
   ·refine fo (iL (bg (aV:=is c) (a6:=is k9) af af (iF aY bH) rfl) λ ξ=>iL (fo (gm (l7 (cM (P:=is aF) af (ri abd) aR)) λ h=>by cases h)) λ ξ=>iL (fo (gm (cM (P:=cH (bc.map is)) af ?_ aR) λ h=>?_)) λ ξ=>jK)
    ·have:=td (A:=A') (YN:=bc.map is) (by rw [lm];w_up);rwa [show (bc.map is).isEmpty=bc.isEmpty by cases bc<;>rfl] at this
    ·obtain ⟨a,ha⟩:∃a,bc.getLast?=some a:=by
      cases hq:bc.getLast? with
      |some a=>exact ⟨a,rfl⟩
      |none=>rw [List.getLast?_eq_none_iff] at hq;subst hq;cases h
     rw [ha];have e2:decide (some a=some k9)=decide (a=k9):=by simp
     rw [e2];exact gm (bg (aV:=is a) (a6:=is k9) (cP (aV:=is bc) (a6:=is (-1:Int)) (Ev.imp (P:=cH (bc.map is)) af λ ξ ξ=>is_list.mpr) (qC bX) (xT ha) ty_list PySem.F.slot_list_getitem.lookup) af (iE aY bH) rfl) λ ξ=>g9
   ·have e:gf bc c=bc++[c]:=by
     unfold gf;rw [if_neg (by rw [fg];decide),if_pos];by_cases q:c=k9
     ·subst q;have:bc.getLast?=some k9:=by simp at h';exact h'.2
      simp [this]
     ·simp [q]
    refine yI f (D:=D) (YN:=bc.map is) (P:=is c) af (uY (ow (λ m=>nomatch m)) sK) af (by rw [lm];w_up) rfl aR aR (λ ξ=>⟨_,rfl⟩) (λ ξ=>rfl) λ bY f=>?_;refine bf (bf (hQ .next _ ?_));show YQ _ _ _ _ _ _ _ (K.and ((dc D ((fD (cL.take (i+1))).map is)).and Y8)) S' bY;rw [hj,e,List.map_append];exact f.ek (ay abl (ay abl (ay abl (ay abl (ay abl bO)))))
   ·have HT:c=k9:=by simp at h';exact h'.1
    have Sl:¬bc.getLast?=some k9:=by
     intro q;have q3:bc≠[]:=by rintro rfl;cases q
     simp [HT,q,q3] at h'
    have e:gf bc c=bc.dropLast:=by unfold gf;rw [if_neg (by rw [fg];decide),if_neg (by simp [HT,Sl])]
    have vw:=f.view (z:="new_comps") (YN:=bc.map is) (D:=D) abl f.jp.2.1;refine nk f vw (b:=!bc.isEmpty) ?_ (λ h2 bY f=>?_) (λ h2 bY f=>?_)
    ·have:=td (A:=A') (YN:=bc.map is) (by rw [lm];w_up);rw [show (bc.map is).isEmpty=bc.isEmpty by cases bc<;>rfl] at this;exact cM (P:=cH (bc.map is)) af this aR
    ·have q3:bc≠[]:=by rintro rfl;cases h2
     have Sm:bc.map is=bc.dropLast.map is++[is (bc.getLast q3)]:=by
      conv=>lhs;rw [<-List.dropLast_concat_getLast q3]
      rw [List.map_append];rfl
     rw [Sm] at f;refine Oo f (D:=D) (YN:=bc.dropLast.map is) (Pl:=is (bc.getLast q3)) af (uY (ow (λ m=>nomatch m)) sK) (by rw [lm,List.length_dropLast];w_up) rfl (λ g v p a q=>by obtain ⟨t,e⟩:=bz.mp p;rw [e] at q;cases q) aR (λ ξ=>⟨_,rfl⟩) λ dK f=>?_;refine bf (bf (bf (hQ .next _ ?_)));show YQ _ _ _ _ _ _ _ (K.and ((dc D ((fD (cL.take (i+1))).map is)).and Y8)) S' dK;rw [hj,e];exact f.ek (ay abl (ay abl (ay abl (ay abl (ay abl bO)))))
    ·have q3:bc=[]:=by cases bc with
      |nil=>rfl
      |cons _ _=>cases h2
     refine bf (bf (bf (hQ .next _ ?_)));show YQ _ _ _ _ _ _ _ (K.and ((dc D ((fD (cL.take (i+1))).map is)).and Y8)) S' bY;rw [hj,e,q3];rw [q3] at f;exact f.ek (ay abl (ay abl (ay abl (ay abl (ay abl bO)))))
 ·have f:=f.vP (z:="new_comps") abl h0 (λ m=>nomatch m);refine aU f (P:=is (fD cL)) (Ev.imp (P:=cH ((fD cL).map is)) af λ ξ ξ=>is_list.mpr) abd aR λ nS f=>?_;have hz:(aF++j).cs.length<=sizeLine:=by rw [Tx.d9,gD];show 1+_<=_;w_up
  refine aU f (P:=is (aF++j)) (c6 (aV:=is aF) (a6:=is j) af (g4 (gZ:=is aF) (YN:=[is (fD cL)]) af (my PySem.F.slot_str_join PySem.F.type_str_join) (au af aB) aR trivial (wk hj ou) (λ ξ=>⟨_,rfl⟩)) (jx (by show 1+_<=_;w_up))) abd aR λ qe f=>?_;refine dO f (P:=is (aF++j)) (Dl (b:=true) (P:=is (aF++j)) af (ri hz) (λ ξ ξ ξ h=>h) xR) λ v aH f' p=>f'.gc (F:=[]) p
def dU (xs:List Tx):List Tx:=xs.filter λ c=>!c.cs.isEmpty&&(!decide (c=dot)&&true)
noncomputable def fj:List Tx->List Tx->Nat
 |x::xs,y::ys=>if x=y then fj xs ys+1 else 0
 |_,_=>0
def q8 {x y:Tx} {xs ys:List Tx}:fj (x::xs) (y::ys)=if x=y then fj xs ys+1 else 0:=rfl
def B0 {xs ys:List Tx} {a b:Tx} (h0:i<=fj xs ys) (h1:xs[i]? =some a) (h2:ys[i]? =some b) (h3:a≠b):fj xs ys=i:=by
 induction xs generalizing ys i with
 |nil=>simp at h1
 |cons x xs ih=>cases ys with
  |nil=>simp at h2
  |cons y ys=>
   rw [q8] at h0⊢;cases i with
   |zero=>simp at h1 h2;subst h1 h2;rw [if_neg h3]
   |succ i=>
    by_cases e:x=y
    ·rw [if_pos e] at h0⊢;rw [ih (Nat.le_of_succ_le_succ h0) h1 h2]
    ·rw [if_neg e] at h0;cases h0
def B3 {xs ys:List Tx} {a:Tx} (h0:i<=fj xs ys) (h1:xs[i]? =some a) (h2:ys[i]? =some a):i+1<=fj xs ys:=by
 induction xs generalizing ys i with
 |nil=>simp at h1
 |cons x xs ih=>cases ys with
  |nil=>simp at h2
  |cons y ys=>
   rw [q8] at h0⊢;cases i with
   |zero=>simp at h1 h2;subst h1 h2;rw [if_pos rfl];exact Nat.succ_le_succ (Nat.zero_le _)
   |succ i=>
    by_cases e:x=y
    ·rw [if_pos e] at h0⊢;exact Nat.succ_le_succ (ih (Nat.le_of_succ_le_succ h0) h1 h2)
    ·rw [if_neg e] at h0;cases h0
def uo (bt:Nat->Nat->Bool):∀k,argBest bt k<=k:=by
 intro k;induction k with
 |zero=>exact Nat.le_refl _
 |succ k ih=>
  have:=ih;unfold argBest;split<;>w_up
noncomputable def wO (p:Prop):XW:=⟨[],λ ξ ξ=>p,λ ξ ξ ξ ξ x=>x⟩
def jv (A:Around) (p:Tx) (sp abm gu s2:List Tx) (j:Tx):Prop:=∀{q:Tx} (abx:cy 9 A) (hp:p.cs.length<=100) (hq:q.cs.length<=100) (h1:Txt.split p.s aF.s=sp.map Tx.s) (h2:Txt.split q.s aF.s=abm.map Tx.s) (l1:sp.length<=100) (l2:abm.length<=100) (Pk:∀c∈sp,c.cs.length<=100) (Pn:∀c∈abm,c.cs.length<=100) (a1:Txt.startswith p.s aF.s=true) (a2:Txt.startswith q.s aF.s=true) (Po:gu=if ru (dU abm) (dU sp)=true then dU abm else dU sp) (rA:s2=if ry (dU abm) (dU sp)=true then dU abm else dU sp) (Sn:∀i,i<gu.length->i<=fj gu s2->i<s2.length) (hj:Txt.join aF.s ((gu.take (fj gu s2)).map Tx.s)=j.s) (ou:JoinOk aF.s ((gu.take (fj gu s2)).map Tx.s)=true) (Sj:j.cs.length<=1000),fJ A (.ref 303) [cH [is p,is q]] (is (aF++j))
namespace op_commonpath_v
def aau:=ev (U (U (U (U (U (U jv))))))
def abN:=aau.1.1.1.1.1.1
def pz:=aau.1.1.1.1.1.2
def wQ:=aau.1.1.1.1.2
def Ar:=aau.1.1.1.2
def j8:=aau.1.1.2
def qi:=aau.1.2
def Zb:=aau.2
def Zk:jv abN pz wQ Ar j8 qi Zb:=by
 intro q abx hp hq h1 h2 l1 l2 Pk Pn a1 a2 Po rA Sn hj ou Sj;have hl:=br;refine ju (n:=8) (ρ:=[("paths",cH [is pz,is q])]) (o:=M9) abl rfl aaT ⟨302,M8,_,_,rfl,by rfl,rfl,rfl⟩ abx (mY λ v=>by rfl) ["paths"] rfl abd abd ?_;intro aw az aa S s' A' aY f;refine aU f (P:=f5 ([pz,q].map is)) (xZ (ai:=[pz,q]) (f:=256) (n:=0) (aY.less (by w_up)) aQ aQ (au cI (au (Ev.imp (P:=cH [is pz,is q]) af λ ξ ξ h=>is_list.mpr h) aB)) aR aR (λ ξ=>rfl) (by simp;w_up) (λ Xo VF t ξ=>kn VF)) abd aR λ aj f=>?_;refine f6 f (b:=false) ?_ nD λ ξ aA f=>?_
 ·refine l7 (b:=true) (cM (P:=f5 ([pz,q].map is)) af ?_ aR);have:=IB (A:=A') (YN:=[pz,q].map is) (by simp;w_up);exact this
 refine bf (f6 f (b:=false) ?_ nD λ ξ aH f=>?_)
 ·refine cM ?_ gk aR;exact ba (f:=.builtin "isinstance") (YN:=[is pz,lit (.type "bytes")]) aQ (au (cP (aV:=f5 ([pz,q].map is)) (a6:=is (0:Int)) af bX (kF (by w_up) (by w_up) rfl) vf PySem.F.slot_tuple_getitem.lookup) (au aQ aB)) aR trivial iN
 refine aU f (P:=is aF) (cD _ abl) abd aR λ bS f=>?_;refine aU f (P:=is dot) (cD _ abl) abd aR λ bY f=>?_;refine bf (D3 ?_);let f2:Tx->List Tx:=λ t=>if t=pz then wQ else Ar
 have So:∀t∈[pz,q],Txt.split t.s aF.s=(f2 t).map Tx.s/\(f2 t).length<=100/\(∀c∈f2 t,c.cs.length<=100)/\t.cs.length<=100/\Txt.startswith t.s aF.s=true:=by
  intro t ht;by_cases e:t=pz
  ·rw [show f2 t=wQ from if_pos e,e];exact ⟨h1,l1,Pk,hp,a1⟩
  ·have e':t=q:=by
    rcases cF ht with h|h
    ·exact absurd h e
    ·exact bj h
   rw [show f2 t=Ar from if_neg e,e'];exact ⟨h2,l2,Pn,hq,a2⟩
 refine mW (ai:=[pz,q]) (abL:=is) (β:=λ t=>[("path",is t)]) (p:=λ ξ=>true) (g:=f2) (Ok:=Plain) f bV (ki aY.handled af) (λ ξ ξ=>rfl) (by simp;w_up) (.name _ _) (λ t ξ=>bB abd) (λ ξ ξ=>fy) (λ t ht ξ=>?_) abd (λ aa h1 h2=>du aa h1 h2 abd) λ dK f=>?_
 ·refine n6 (So t ht) λ b1 b2 XR abw YR=>?_;exact g4 (gZ:=is t) (YN:=[is aF]) af (my PySem.F.slot_str_split PySem.F.type_str_split) (au af aB) aR trivial (tE b1 rfl (by w_up) (by w_up)) (λ ξ=>⟨_,rfl⟩)
 refine D3 (vG f (W:=tB) (β:=[("isabs",is true)]) (tC (ai:=[pz,q]) (abL:=is) (β:=λ t=>[("p",is t)]) (Ok:=Plain) bV (ki aY.handled af) (λ ξ ξ=>rfl) (by simp;w_up) (.name _ _) (by simp) (λ t ξ=>bB abd) λ t ht=>?_) (GF aY.handled abd) abl abl λ dT f=>?_)
 ·refine n6 (So t ht) λ b1 b2 XR abw YR=>?_;rw [<-YR];exact g4 (gZ:=is t) (YN:=[is aF]) af (my PySem.F.slot_str_startswith PySem.F.type_str_startswith) (au af aB) aR trivial pW (λ ξ=>⟨_,rfl⟩)
 have e0:([pz,q].filter λ ξ=>true).map f2=[wQ,f2 q]:=by show [f2 pz,f2 q]=_;rw [show f2 pz=wQ from if_pos rfl]
 have e1:f2 q=Ar:=by
  by_cases e:q=pz
  ·rw [show f2 q=wQ from if_pos e];have:wQ.map Tx.s=Ar.map Tx.s:=by rw [<-h1,<-h2,e]
   exact (List.map_inj_right (λ a b=>Tx.lu)).mp this
  ·exact if_neg e
 rw [e0,e1] at f;refine bf (mW (ai:=[wQ,Ar]) (abL:=is) (β:=λ t=>[("s",is t)]) (p:=λ ξ=>true) (g:=dU) (Ok:=Plain) f bV (bZ aY.handled af) (λ ξ ξ=>rfl) (by simp;w_up) (.name _ _) (λ t ξ=>bB abd) (λ ξ ξ=>fy) (λ t ht ξ=>?_) abd (λ aa h1 h2=>du aa h1 h2 abd) λ mS f=>?_)
 ·have hc:∀c∈t,c.cs.length<=100:=by
   rcases cF ht with h|h
   ·rw [h];exact Pk
   ·rw [bj h];exact Pn
  have Xp:t.length<=100:=by
   rcases cF ht with h|h
   ·rw [h];exact l1
   ·rw [bj h];exact l2
  have VG:dU t=(t.filter λ c=>!c.cs.isEmpty&&(!decide (c=dot)&&true)).map (λ c=>c):=by unfold dU;rw [List.map_id']
  rw [VG];exact cK (ai:=t) (abL:=is) (β:=λ c=>[("c",is c)]) (p:=λ c=>!c.cs.isEmpty&&(!decide (c=dot)&&true)) (f:=λ c=>c) (Ok:=Plain) bV (bZ aY.handled af) (λ ξ ξ=>rfl) (by w_up) (.name _ _) (λ c ξ=>bB abd)
   (λ c tR=>e8 (fo (gm (cM (P:=is c) af (ri (by have:=hc c tR;w_up)) aR) λ ξ=>gm (bg (aV:=is c) (a6:=is dot) af af (iF aY bH) rfl) λ ξ=>g9))) (λ c ξ ξ=>af)
 have e2:([wQ,Ar].filter λ ξ=>true).map dU=[dU wQ,dU Ar]:=rfl;rw [e2] at f;generalize Pc:dU wQ=np at*;generalize VH:dU Ar=abi at*;have b1:fm A'.in1 (richCompare .Lt) (is abi) (is np) (is (ru abi np)):=yL (n:=7) aY.in1;have b2:fm A'.in1 (richCompare .Gt) (is abi) (is np) (is (ry abi np)):=yM (n:=7) aY.in1;refine aU f (P:=is j8) (ba (f:=.builtin "min") (YN:=[cH ([np,abi].map is)]) aQ (au (Ev.imp (P:=is [np,abi]) af λ ξ ξ=>is_list.mp) aB) aR trivial
  (Lo (ai:=[np,abi]) (abL:=is) (bt:=λ i Zb=>ru ([np,abi].getD i []) ([np,abi].getD Zb [])) aY.handled (by simp) (λ i Zb hi hj=>?_) (λ k hk=>Nat.lt_of_le_of_lt (uo _ k) hk) ?_)) abd aR λ gT f=>?_
 ·have e3:[np,abi].getD i []=[np,abi][i]:=by rw [List.getD_eq_getElem?_getD,List.getElem?_eq_getElem hi];rfl
  have e4:[np,abi].getD Zb []=[np,abi][Zb]:=by rw [List.getD_eq_getElem?_getD,List.getElem?_eq_getElem hj];rfl
  rw [e3,e4];exact yL (n:=7) aY.in1
 ·show [np,abi][if ru abi np=true then 1 else 0]? =some j8;rw [Po];split<;>rfl
 refine aU f (P:=is qi) (ba (f:=.builtin "max") (YN:=[cH ([np,abi].map is)]) aQ (au (Ev.imp (P:=is [np,abi]) af λ ξ ξ=>is_list.mp) aB) aR trivial
  (Fw (ai:=[np,abi]) (abL:=is) (bt:=λ i Zb=>ry ([np,abi].getD i []) ([np,abi].getD Zb [])) aY.handled (by simp) (λ i Zb hi hj=>?_) (λ k hk=>Nat.lt_of_le_of_lt (uo _ k) hk) ?_)) abd aR λ j3 f=>?_
 ·have e3:[np,abi].getD i []=[np,abi][i]:=by rw [List.getD_eq_getElem?_getD,List.getElem?_eq_getElem hi];rfl
  have e4:[np,abi].getD Zb []=[np,abi][Zb]:=by rw [List.getD_eq_getElem?_getD,List.getElem?_eq_getElem hj];rfl
  rw [e3,e4];exact yM (n:=7) aY.in1
 ·show [np,abi][if ry abi np=true then 1 else 0]? =some qi;rw [rA];split<;>rfl
 have VI:np.length<=100:=by rw [<-Pc];exact Nat.le_trans (List.length_filter_le _ _) l1
 have VJ:abi.length<=100:=by rw [<-VH];exact Nat.le_trans (List.length_filter_le _ _) l2
 have VK:j8.length<=100:=by rw [Po];split<;>assumption
 refine aU f (P:=is j8) af abd aR λ nS f=>?_;refine lC (ai:=j8.zipIdx) (abL:=λ a=>f5 [is ((a.2:Nat):Int),is a.1]) (Ok:=sy) (β:=λ a=>[("c",is a.1),("i",is ((a.2:Nat):Int))]) (f9:=λ i=>[("common",is j8),("s1",is j8),("s2",is qi),("isabs",is true),("sep",is aF)]) (ZH:=λ i=>wO (i<=fj j8 qi))
  (lT:=[("common",is (j8.take (fj j8 qi))),("isabs",is true),("sep",is aF)]) (aap:=Y8)
  ⟨f.cx,f.Zt,f.aaH,f.sub,f.new,f.loc,f.gb,f.cl,Nat.zero_le _,λ b hb=>nomatch hb⟩ (ay abl (ay abl (ay abl (ay abl (ay abl bO))))) (GD aY.handled aQ af aR (λ ξ=>rfl)) ⟨_,_,_,rfl⟩ (λ ξ=>rfl) (λ a ξ=>mh (xs:=[(_,_),(_,_)]) (YN:=[is ((a.2:Nat):Int),is a.1]) aY.handled rfl abd) (λ ξ ξ h=>nomatch h) (λ ξ h=>nomatch h) ?_ (λ S' s' f=>?_) λ qe f=>?_
 ·intro i hi K S' aA hK f;refine Yj λ Q hQ=>?_;have LL:i<j8.length:=by simpa using hi
  have DF:i<=fj j8 qi:=f.jp.2;have VL:=Sn i LL DF;simp only [List.getElem_zipIdx,Nat.zero_add] at f;have g1:j8[i]? =some j8[i]:=List.getElem?_eq_getElem LL;have g2:qi[i]? =some qi[i]:=List.getElem?_eq_getElem VL;refine f6 f (b:=!decide (j8[i]=qi[i])) ?_ (λ h aH f=>?_) (λ h aH f=>?_)
  ·exact bg (aV:=is j8[i]) (a6:=is qi[i]) af (cP (aV:=is qi) (a6:=is ((i:Nat):Int)) af af (dD (by w_up) (by w_up) (by simpa using g2)) ty_list PySem.F.slot_list_getitem.lookup) (iF aY bH) rfl
  ·have fg:j8[i]≠qi[i]:=by simpa using h
   have hs:=B0 DF g1 g2 fg;refine aU f (P:=is (j8.take i)) (cP (aV:=is j8) (a6:=ef none (some ((i:Nat):Int)) none) af (fq cR (eN af) cR) (pE (by w_up)) ty_list PySem.F.slot_list_getitem.lookup) abd aR λ bS f=>?_;refine Io (hQ .brk _ ?_);rw [hs];exact ⟨f.cx.sub (ay abl (ay abl (ay abl bO))),f.Zt,f.aaH,f.sub,f.new,f.loc,f.gb,f.cl,⟨f.jp.1,trivial⟩,λ b hb=>f.aar b hb⟩
  ·have he:j8[i]=qi[i]:=by simpa using h
   have hs:=B3 DF g1 (by rw [he];exact g2);refine bf (bf (hQ .next _ ?_));exact ⟨f.cx.sub (ay abl (ay abl (ay abl (ay abl (ay abl bO))))),f.Zt,f.aaH,f.sub,f.new,f.loc,f.gb,f.cl,⟨f.jp.1,hs⟩,λ b hb=>f.aar b hb⟩
 ·have DF:j8.zipIdx.length<=fj j8 qi:=f.jp;have e5:j8.take (fj j8 qi)=j8:=List.take_of_length_le (by simpa using DF);rw [e5];exact ⟨f.cx.sub (ay abl (ay abl (ay abl bO))),f.Zt,f.aaH,f.sub,f.new,f.loc,f.gb,f.cl,trivial,λ b hb=>nomatch hb⟩
 ·refine aU f (P:=is aF) (tf (b:=true) (cM (P:=is true) af gk aR) (λ ξ=>af) xR) abd aR λ sI f=>?_;refine dO f (P:=is (aF++Zb)) (c6 (aV:=is aF) (a6:=is Zb) af (g4 (gZ:=is aF) (YN:=[is (j8.take (fj j8 qi))]) af (my PySem.F.slot_str_join PySem.F.type_str_join) (au af aB) aR trivial (wk hj ou) (λ ξ=>⟨_,rfl⟩)) (jx (by show 1+_<=_;w_up))) λ v aH f' pz=>f'.gc (F:=[]) pz
end op_commonpath_v
def wR {p:Tx} {sp abm:List Tx} {gu s2:List Tx} {j:Tx}:jv A p sp abm gu s2 j:=s7 (U (U (U (U (U (U jv)))))) op_commonpath_v.Zk ((((((A,p),sp),abm),gu),s2),j)
noncomputable def lP (ns:List abp) (x:Tx) (g:abp->abp):List abp:=ns.map λ n=>if n.node=x then g n else n
noncomputable def ky (k:Int) (n:abp):abp:={n with np:=n.np+k}
def qI (x:Tx) (ns:List abp) (p:Tx):List abp:=lP (jM ns p) p (k7 x)
def sL (ns:List abp) (x:Tx) (ps:List Tx):List abp:=ps.foldl (qI x) (lP (jM ns x) x (ky ps.length))
def F0 {x:Tx} {g:abp->abp}:(σ.cz x g).pl=lP σ.pl x g:=by unfold bQ.pl lP bQ.cz;rw [List.map_map,List.map_map];refine List.map_congr_left λ e ξ=>?_;by_cases q:e.nd.node=x<;>simp [Function.comp,q]
def wU {x:Tx} {g:abp->abp}:jE σ (σ.cz x g):=⟨rfl,rfl,rfl,rfl,rfl,rfl,rfl⟩
def qJ (X:ck σ h):∀b∈σ.all,∃o,h.get? b=some o:=λ b m=>by
 rcases bR m with m|m
 ·refine jj X.inst λ mm t1 t2 I=>?_;rcases cF m with rfl|m
  ·exact ⟨_,I.inst.at_⟩
  ·rcases cF m with rfl|m
   ·refine cY I.inst.ns λ o ξ ξ e ξ=>?_;exact ⟨o,e⟩
   ·rcases cF m with rfl|m
    ·refine cY X.dict λ o ξ ξ e ξ=>?_;exact ⟨o,e⟩
    ·have hR:σ.R=some b:=by
      cases hR:σ.R with
      |none=>rw [hR] at m;cases m
      |some R=>rw [hR] at m;rw [bj m]
     refine bu (X.bG b hR) λ vs n e ξ=>?_;exact ⟨_,e⟩
 ·refine aK (List.mem_flatMap.mp m) λ en he hm=>?_;have N:=X.info en he;rcases cF hm with rfl|hm
  ·refine cS N.at_ λ t1 t2 e=>?_;exact ⟨_,e⟩
  ·rcases cF hm with rfl|hm
   ·exact ⟨_,N.rH⟩
   ·refine bu N.XA λ vs n e ξ=>?_;rw [bj hm];exact ⟨_,e⟩
def YQ.NT (f:YQ sc ak F aw az aa ρ (K.and (b8 σ)) S s) (j0:∀b∈σ.all,b∉K.fp) (aaH:abO σ.all s s') (X':ck σ' s'.heap) (fv:∀b∈σ'.all,b∈σ.all\/s.heap.get? b=none):
  ∃S',(∀b∈S,b∈S')/\XN (hide S s.heap) (hide S' s'.heap)/\YQ sc ak F aw az aa ρ (K.and (b8 σ')) S' s':=by
 refine cS aaH.same λ h' tk eL=>?_;subst eL;have hS:∀b∈σ.all,b∈S:=λ b m=>(f.aar b (bC _ m)).1;have hn:∀b∈σ'.all.filter (λ b=>!σ.all.contains b),s.heap.get? b=none:=λ b m=>by
  refine cO (aa7 m) λ m1 m2=>?_;rcases fv b m1 with q|q
  ·simp at m2;exact absurd q m2
  ·exact q
 have le:=iZ hS aaH.keep hn;refine eX (σ'.all.filter (λ b=>!σ.all.contains b)++S) (λ b m=>bC _ m) le ?_;refine f.step (D:=σ.all) (λ b m=>bC _ m) aaH.keep (λ b m=>let ⟨o,e⟩:=f.cx.b4 b (hS b m);aaH.live b o e) hn (λ b m=>qJ X' b (aa7 m).1) ⟨K.st le ao ao (λ b m o e=>aaH.keep b o (λ q=>j0 b q m) e) f.jp.1,X'⟩ λ b m=>?_;rcases bR m with m|m
 ·exact .inl (bL _ m)
 ·by_cases q:b∈σ.all
  ·exact .inl (bC _ q)
  ·exact .inr (List.mem_filter.mpr ⟨m,by simpa using q⟩)
def oH {pl:Sem Bool} {aaF:Value×List Value->Shared->Prop} (XJ:(Mine.KK w.params).In s.heap) (X:ck σ s.heap) (hf:findIn (Mine.KK w.params) (.ref 179) name=some (some (.ref f))) (ht:typeIn (Mine.KK w.params) (.ref f)=some (.type "function")) (hn:name∉l0)
  (q:aaF (.ref f,[.ref σ.D]) s):wpAny (model XX w) A (getMethod (.ref σ.D) name pl) aaF E s:=by
 refine jj X.inst λ m t1 t2 I=>?_;refine wy jV XJ I.inst hf ht ?_ q;cases e:m name with
 |none=>rfl
 |some v=>exact absurd (I.Xz name (by rw [e];simp)) hn
def uq {y:Str} {np:Pos} {x:Tx} (abx:cy 3 A) (hz:σ.es.length<=1000) (f:YQ sc ak F aw az aa ρ (K.and (b8 σ)) S s) (j0:∀b∈σ.all,b∉K.fp)
  (hy:Ev A sc ρ (.Name y np) (lit (.ref σ.D))) (ha:Ev A sc ρ aS (is x)) (hx:cw ak sc z=true) (hp:eT [aS]) (mw:starEach [aS] aa=(false,eval aS aa)::starEach [] aa)
  (hs:∀aa:Env,aa.scope.kind= .function->aa.scope.names=sc->swapsWith (.Call (.Attribute (.Name y np) "_get_nodeinfo" bE) [aS] [] be) (some (.Name z YA)) ar.line aa=pure false)
  (oz:∃pl:Sem Bool,eval (.Call (.Attribute (.Name y np) "_get_nodeinfo" bE) [aS] [] be) aa=(do
   let ov<-eval (.Name y np) aa
   standAt bE.atName
   let (f,first)<-holding [ov] (getMethod ov "_get_nodeinfo" pl)
   callWith be f first (backTo be (starEach [aS] aa)) []))
  (k:∀σ' en S' s',jE σ σ'->σ'.pl=jM σ.pl x->en∈σ'.es->en.nd.node=x->(∀e∈σ.es,e∈σ'.es)->(∀b∈S,b∈S')->(∀b∈σ'.all,b∈σ.all\/s.heap.get? b=none)->(∀b∈σ'.all,b∉K.fp)->
   YQ sc ak F aw az aa ((z,lit (.ref en.a))::ρ) (K.and (b8 σ')) S' s'->wpAny (model XX w) A (execs aD aa) Q E s'):
  wpAny (model XX w) A (execs (.Assign [.Name z YA] (.Call (.Attribute (.Name y np) "_get_nodeinfo" bE) [aS] [] be) ar::aD) aa) Q E s:=by
 refine YF (wpAny_Assign_Name (hs:=hs aa f.cx.kind f.cx.names) (eG oz (hy.use f.cx λ v aj k₁ c₁ aZ=>λ pl=>?_)));rw [show v= .ref σ.D from aZ];have bN:=f.keep k₁;refine oH (f:=122) (bN.cx.top.k.keeps ao) bN.jp.2 abl abl bH ?_;refine eg (hp aa be) (j7 (he:=mw) (ha.use bN.cx λ u aA k₂ c₂ cG=>wpAny_items_nil ?_));have bh:=bN.keep k₂;refine ⟨⟨_,_,ao _ _ (bh.cx.top.k 122 _ abl),rfl⟩,?_⟩;refine Zh (Am (σ:=σ) (S:=S) (x:=x) abx hz bh.cx.top bh.cx.b4 (λ b m=>(bh.aar b (bC _ m)).1) bh.jp.2 ⟨rfl,cG,trivial⟩) (λ v aH q=>?_) eY;obtain ⟨σ',en,hB,g8,he,jB,rfl,aaH,X',fv,hold⟩:=q;have Sp:∀b∈σ'.all,b∉K.fp:=λ b m q=>by
  rcases fv b m with z|z
  ·exact j0 b z q
  ·refine aM (bh.cx.b4 b (bh.aar b (bL _ q)).1) λ o e=>?_;rw [z] at e;cases e
 refine cZ (bh.NT j0 aaH X' fv) λ S' lA ξ dC=>?_;have kk:=aL k₁ k₂;exact dC.store hx (P:=lit (.ref en.a)) rfl λ bS fB=>k σ' en S' bS hB g8 he jB hold lA (λ b m=>by
  rcases fv b m with z|z
  ·exact .inl z
  ·refine .inr ?_;cases e:s.heap.get? b with
   |none=>rfl
   |some o=>rw [kle kk _ _ e] at z;cases z) Sp fB
def JE {k:Int} (f:YQ sc ak F aw az aa ρ J S s) (L:jY J aa_ σ (σ.cz en.nd.node (ky k))) (he:en∈σ.es) (hz:Ev A sc ρ (.Name z YA) (lit (.ref en.a))) (ha:Ev A sc ρ aS (is k))
  (q:∀s',YQ sc ak F aw az aa ρ aa_ S s'->wpAny (model XX w) A (execs aD aa) Q E s'):wpAny (model XX w) A (execs (.AugAssign (.Attribute (.Name z YA) "npredecessors" ap) .Add aS ar::aD) aa) Q E s:=by
 refine YF (wpAny_AugAssign_AttributeAny (hz.use f.cx λ v aj k₁ c₁ aZ=>?_));rw [show v= .ref en.a from aZ];have f:=f.keep k₁;have N:=(L.get f.jp).info en he;refine cS N.at_ λ t1 t2 G4=>?_;refine kq (p:=84) (f.cx.top.k.keeps ao) G4 ⟨_,N.rH⟩ abl abl abl yS rfl rfl ?_;have f:=f.keep (dG aj (aj.toks+1));refine ha.use f.cx λ u aA k₂ c₂ cG=>?_;have f:=f.keep k₂;refine aM (bD.mp cG) λ t c7=>?_;subst c7;refine PyProof.Rows.iadd_int ?_;have f:=f.keep (dG aA (aA.toks+1));exact BU (g:=ky k) (λ ξ=>rfl) rfl f L he q
def LS {y:Tx} {mp:Pos} (f:YQ sc ak F aw az aa ρ J S s) (he:en∈σ.es) (L:jY J aa_ σ (σ.cz en.nd.node (k7 y))) (GY:ρ.lookup z=some (lit (.ref en.a)))
  (hz:∀gy,Ev A sc ((z,o4 σ en)::gy) (.Name z YA) (o4 σ en)) (ha:Ev A sc ρ aS (is y)) (hsz:en.nd.succ.length<=1000)
  (gP:∀aa:Env,aa.scope.kind= .function->aa.scope.names=sc->swapsWith (.Call (.Attribute (.Attribute (.Name z YA) "successors" ap) "append" mp) [aS] [] be) none ar.line aa=pure false)
  (oz:∃pl:Sem Bool,eval (.Call (.Attribute (.Attribute (.Name z YA) "successors" ap) "append" mp) [aS] [] be) aa=(do
   let ov<-eval (.Attribute (.Name z YA) "successors" ap) aa
   standAt mp.atName
   let (f,first)<-holding [ov] (getMethod ov "append" pl)
   callWith be f first (backTo be (starEach [aS] aa)) []))
  (mw:starEach [aS] aa=(false,eval aS aa)::starEach [] aa) (hp:eT [aS])
  (q:∀s',YQ sc ak F aw az aa ρ aa_ S s'->wpAny (model XX w) A (execs aD aa) Q E s'):wpAny (model XX w) A (execs (.Expr (.Call (.Attribute (.Attribute (.Name z YA) "successors" ap) "append" mp) [aS] [] be) ar::aD) aa) Q E s:=by
 have hl:=br;refine jW f.cx gP (eG oz ((yY (σ:=σ) he (hz ρ)).use (qH f GY (L.get f.jp)) λ v aj k₁ c₁ aZ=>λ pl=>?_));rw [show v= .ref en.b from aZ];have f:=f.keep k₁;refine bu (((L.get f.jp).info en he).XA) λ vs n aaS tl=>?_;refine getMethod_builtin ⟨_,aaS,rfl⟩ PySem.F.plainAttrs_list PySem.F.slot_list_append PySem.F.type_list_append (λ a q=>by cases q;exact cV _ aaS rfl) ?_;refine eg (hp aa be) (j7 (he:=mw) (ha.use f.cx λ u aA k₂ c₂ cG=>wpAny_items_nil ⟨trivial,?_⟩));have f:=f.keep k₂;have X:=L.get f.jp;have N:=X.info en he;refine bu N.XA λ vs n aaS tl=>?_;have e1:=tl.length;rw [Array.length_toList] at e1;refine wpAny_list_append_plain (hsz:=by w_up) ⟨n,aaS⟩ λ h' eF gA=>⟨λ a q=>(nomatch q),?_⟩;refine aM eF λ m' eF=>?_;refine aM (bz.mp cG) λ t fR=>?_;subst fR;have gp:[en.a,en.dx,en.b].Nodup:=(X.mQ en he).1;have N':jX h' en.a en.dx en.b (k7 y en.nd):=by refine cS N.at_ λ t1 t2 G4=>?_;refine ⟨⟨t1,t2,(gA.2 _ (fb (f3 (lK gp)))).trans G4⟩,(gA.2 _ (fb (lK (u5 gp)))).trans N.rH,_,m',eF,?_⟩;rw [Array.toList_push];exact tl.append ⟨⟨t,rfl⟩,trivial⟩
 exact q _ (f.uN (tk:=aA.toks) L (gH he Ent.mB) gA ⟨_,eF⟩ (X.cz (g:=k7 y) (λ ξ=>rfl) he rfl (c:=en.b) Ent.mB gA N'))
def JF {a b p:Str} (hz:YN.length<=sizeLine) (h:∀v u vs,bindArgs fd ⟨v::u::vs,[]⟩=(do let t<-newTuple vs;pure [(a,v),(b,u),(p,t)])):kH fd (P::aV::YN) [(a,P),(b,aV),(p,f5 YN)]:=λ S s vs A Q E fr pp k=>by
 match vs,pp with
 |v::u::vs,⟨p1,p2,p3⟩=>
  rw [h];refine Z4 (wpAny_newTuple (X5 (k _ _ (gK _ _ _) ⟨rfl,P.mono (aJ (kle (gK s _ s.toks))) p1,rfl,aV.mono (aJ (kle (gK s _ s.toks))) p2,rfl,⟨_,_,0,rfl,eZ fr rfl,p3.mono (aJ (kle (gK s _ s.toks)))⟩,trivial⟩)) ?_);rw [p3.length];exact hz
def YQ.fX (f:YQ sc ak F aw az aa ρ J S s) (hp:aa_.p (hide S s.heap) s.heap) (hf:∀b∈aa_.fp,b∈J.fp):YQ sc ak F aw az aa ρ aa_ S s:=
 ⟨f.cx,f.Zt,f.aaH,f.sub,f.new,f.loc,f.gb,f.cl,hp,λ b hb=>f.aar b (hf b hb)⟩
def jq (ns:List abp) (x:Tx) (ps:List Tx) (i:Nat):List abp:=(ps.take i).foldl (qI x) (lP (jM ns x) x (ky ps.length))
def y9 (ns:List abp) (x:Tx):(jM ns x).length<=ns.length+1:=by
 unfold jM;split
 ·w_up
 ·rw [gD];exact Nat.le_refl _
def tS {ns:List abp} {x:Tx} {n:abp} (h:n∈jM ns x):n∈ns\/n=⟨x,0,[]⟩:=by
 unfold jM at h;split at h
 ·exact .inl h
 ·rcases bR h with h|h
  ·exact .inl h
  ·exact .inr (bj h)
def za {ns:List abp} {x:Tx} {g:abp->abp} {n:abp} (h:n∈lP ns x g):∃m∈ns,n=if m.node=x then g m else m:=by refine aK (abQ h) λ m hm eL=>?_;subst eL;exact cV m hm rfl
def ur {ns:List abp} {x:Tx} (h:i<ps.length):jq ns x ps (i+1)=qI x (jq ns x ps i) ps[i]:=by unfold jq;rw [List.take_add_one,List.getElem?_eq_getElem h,Option.toList,List.foldl_append];rfl
def As {ns:List abp} {x:Tx} {B:Nat} (hB:∀n∈ns,n.succ.length<=B):∀i,i≤ps.length->(jq ns x ps i).length<=ns.length+1+i/\∀n∈jq ns x ps i,n.succ.length<=B+i:=by
 intro i;induction i with
 |zero=>
  intro _;have e:jq ns x ps 0=lP (jM ns x) x (ky ps.length):=rfl;rw [e];refine ⟨by unfold lP;rw [lm];have:=y9 ns x;w_up,λ n hn=>?_⟩;refine aK (za hn) λ m hm gG=>?_;subst gG;have:m.succ.length<=B:=by
   rcases tS hm with q|q
   ·exact hB m q
   ·rw [q];exact Nat.zero_le _
  split
  ·show m.succ.length<=_;w_up
  ·w_up
 |succ i ih=>
  intro hi;refine cO (ih (Nat.le_of_lt hi)) λ h1 h2=>?_;rw [ur hi];generalize jq ns x ps i=ms at*;refine ⟨?_,λ n hn=>?_⟩
  ·unfold qI lP;rw [lm];have:=y9 ms ps[i];w_up
  ·refine aK (za hn) λ m hm gi=>?_;subst gi;have:m.succ.length<=B+i:=by
    rcases tS hm with q|q
    ·exact h2 m q
    ·rw [q];exact Nat.zero_le _
   split
   ·show (m.succ++[x]).length<=_;rw [gD];show _+1<=_;w_up
   ·w_up
def sM (A:Around) (σ:bQ) (x:Tx) (ps:List Tx):Prop:=∀{S:List Addr} {s:Shared} {vs:List Value} (abx:cy 4 A) (hR:σ.R=none) (hz:σ.es.length<=500) (x7:ps.length<=100) (Bm:∀n∈σ.pl,n.succ.length<=500) (T:er (hide S s.heap)) (fr:∀b∈S,∃o,s.heap.get? b=some o) (hS:∀b∈σ.all,b∈S) (X:ck σ s.heap) (p:AllP (hide S s.heap) (lit (.ref σ.D)::is x::ps.map is) vs),wpAny (model XX w) A (call (.ref 129) vs []) (λ v s'=>∃σ',jE σ σ'/\σ'.pl=sL σ.pl x ps/\v= .none/\abO σ.all s s'/\ck σ' s'.heap/\(∀b∈σ'.all,b∈σ.all\/s.heap.get? b=none)) dj s
namespace op_add_v
def aau:=ev (U (U (U sM)))
def abN:=aau.1.1.1
def bT:=aau.1.1.2
def xz:=aau.1.2
def pe:=aau.2
def Zk:sM abN bT xz pe:=by
 intro S s vs abx hR hz x7 Bm T fr hS X p;have hl:=br;refine kI (ρ:=[("self",lit (.ref bT.D)),("node",is xz),("predecessors",f5 (pe.map is))]) (J:=Y8.and (b8 bT)) (F:=(b8 bT).fp) (o:=MN) T fr abx p abl rfl aaT ⟨128,MM,_,_,rfl,by rfl,rfl,rfl⟩ ["self","node","predecessors"]
  (JF (a:="self") (b:="node") (p:="predecessors") (by rw [lm];w_up) (λ a b vs=>by cases vs<;>rfl)) abl abd abd ⟨trivial,X⟩ (λ b m=>⟨hS b m,m⟩) λ A' Q' aa mD aA aY i0 hQ ξ ξ ξ f=>?_
 have hr:q4 bT.R= .none:=by rw [hR];rfl
 refine nk f (fa (z:="self") f abl f.jp.2) (b:=false) ?_ nD λ ξ aj f=>?_
 ·refine bg (aV:=is ()) (a6:=is ()) ((p7 af).imp λ ξ ξ q=>by rw [hr] at q;exact fe.mpr q) ik (λ S s a b ξ ξ p q=>?_) abl;rw [fe.mp p,fe.mp q];exact wpAny_isNot_plain abl ⟨cB _,is_bool.mpr rfl⟩
 refine bf (uq (z:="nodeinfo") (x:=xz) aY (by w_up) f (λ b ξ m=>nomatch m) af af abd aR abl aR ⟨_,rfl⟩ λ oJ en Sq aH hB g8 he jB hold lA fv j0 f=>?_);refine JE (en:=en) (k:=(pe.length:Int)) (aa_:=Y8.and (b8 (oJ.cz en.nd.node (ky pe.length)))) f (jZ (jg jf) j0) he af (ba (f:=.builtin "len") (YN:=[f5 (pe.map is)]) aQ (au af aB) aR trivial (by have:=sA (A:=A') (YN:=pe.map (is (α:=Tx))) (by rw [lm];w_up);rw [lm] at this;exact this)) λ bS f=>?_;have Ss:(oJ.cz en.nd.node (ky pe.length)).pl=lP (jM bT.pl xz) xz (ky pe.length):=by rw [F0,g8,jB]
 have VM:jE bT (oJ.cz en.nd.node (ky pe.length)):=hB.trans wU;have rM:(oJ.cz en.nd.node (ky pe.length)).all=oJ.all:=jf;generalize Vp:oJ.cz en.nd.node (ky pe.length)=υ at*;have wV:∀τ:bQ,τ.pl.length=τ.es.length:=λ τ=>by unfold bQ.pl;rw [lm]
 have Pb:=As (x:=xz) (ps:=pe) Bm;refine FZ (ai:=pe) (abL:=is) (Ok:=Plain) (α:=bQ) (qh:=υ) (β:=λ p=>[("pred",is p)]) (f9:=λ ξ=>[("node",is xz),("self",lit (.ref bT.D))]) (ZH:=λ i τ=>(wO (jE bT τ/\τ.pl=jq bT.pl xz pe i)).and (b8 τ))
  (f.fX ⟨⟨VM,Ss⟩,f.jp.2⟩ λ b m=>bC _ m) (ay abl (ay abl bO)) (ki aY.handled af) (.name _ _) (λ ξ=>rfl) (λ b ξ=>bB abd) ?_ λ τ S' s' lA f=>?_
 ·intro i hi K S' s' τ hK f;refine Yj λ Q hQ=>?_;refine cO f.jp.2.1 λ mH lG=>?_;refine cO (Pb i (Nat.le_of_lt hi)) λ b1 b2=>?_;have VN:τ.es.length<=1000:=by rw [<-wV,lG];rw [wV] at b1;w_up
  have Pp:∀b∈τ.all,b∉K.fp:=λ b m q=>hK b q (bC _ m);have f:=f.fX (aa_:=K.and (b8 τ)) ⟨f.jp.1,f.jp.2.2⟩ λ b m=>by
   rcases bR m with m|m
   ·exact bL _ m
   ·exact bC _ (bC _ m)
  have f:=f.ek (gy:=[("pred",is pe[i]),("node",is xz),("self",lit (.ref τ.D))]) (by rw [mH.D];exact λ ξ ξ h=>h);refine uq (z:="pred_info") (x:=pe[i]) aY VN f Pp af af abd aR abl aR ⟨_,rfl⟩ λ Em rL zb bY VO q6 BX Su ξ Sv Sw Sx f=>?_;have Ek:rL.nd∈jM (jq bT.pl xz pe i) pe[i]:=by rw [<-lG,<-q6];exact List.mem_map.mpr ⟨rL,BX,rfl⟩
  have rA:rL.nd.succ.length<=1000:=by
   rcases tS Ek with q|q
   ·have:=b2 _ q;w_up
   ·rw [q];exact Nat.zero_le _
  refine LS (y:=xz) (z:="pred_info") (aa_:=K.and (b8 (Em.cz rL.nd.node (k7 xz)))) f BX (jZ (jg jf) Sx) abl (λ ξ=>af) af rA aR ⟨_,rfl⟩ abl aR λ dK f=>?_;refine bf (hQ .next _ ⟨Em.cz rL.nd.node (k7 xz),zb,Sv,λ b m=>?_,?_⟩)
  ·have m:b∈(Em.cz rL.nd.node (k7 xz)).all:=m;rw [jf] at m;rcases Sw b m with q|q
   ·exact .inl (bC _ q)
   ·exact .inr q
  ·refine (f.ek (gy:=[("node",is xz),("self",lit (.ref bT.D))]) (by rw [<-mH.D];exact ay abl (ay abl bO))).fX ⟨f.jp.1,⟨mH.trans (VO.trans wU),?_⟩,f.jp.2⟩ λ b m=>?_
   ·rw [F0,q6,Su,lG,ur hi];rfl
   ·rcases bR m with m|m
    ·exact bL _ m
    ·exact bC _ (m)
 ·refine cO f.jp.1 λ mH lG=>?_;refine bf (hQ _ _ ⟨τ,mH,?_,rfl,f.aaH,f.jp.2,λ b m=>(f.aar b (bC _ m)).2.2.2⟩);rw [lG];unfold jq sL;rw [List.take_length]
end op_add_v
def LU {x:Tx}:sM A σ x ps:=s7 (U (U (U sM))) op_add_v.Zk (((A,σ),x),ps)
def F1 {k:Str} (h:(abh).is k v=true):∃t,v= .str k t:=by have h:Value.isStrOf k v=true:=h;cases v<;>simp [Value.isStrOf] at h;subst h;exact ⟨_,rfl⟩
def G5 {ks:List Tx} (hh:A.handled=none) (he:Ev A sc ρ aG P) (hP:∀g v,P.p g v->∃d L,v= .ref d/\(d==sysModules)=false/\g.DictOf (abh) d L/\L.map (·.1)=ks.map Tx.s):jP A sc ρ aG ks is Plain:=λ S aa s c=>
 he.use c λ v aj k₁ c₁ aZ=>by
  refine jR (hP _ _ aZ) λ d L cX jL hd hk=>?_;subst cX;refine aM hd.dictAt λ ep tT=>?_;have lg:aj.heap.DictAt (abh) d L ep:=tT.at' λ o e=>ao _ _ e;have c4:d<aj.heap.objs.size:=lg.lt_size;have bl:L.length=ks.length:=by have:=congrArg List.length hk;simpa using this
  refine eX aj k₁ (cB _) (wpAny_pyIter_dict (knd:=abh) jL lg ⟨gK _ _ _,aj.heap.objs.size,[aj.heap.objs.size,d],[aj.heap.objs.size],λ i h=>h.IsKeyIter aj.heap.objs.size d i L.length ep/\h.DictAt (abh) d L ep,rfl,?_,⟨⟨_,Heap.get?_push_size _ rfl,rfl,rfl⟩,lg.push _⟩,?_⟩)
  ·have W:=Walks.dictKeys (prog:=XX) (w:=w) (knd:=abh) hh aj.heap.objs.size d (Nat.ne_of_lt c4) L ep;have aaQ:Walks XX w A aj.heap.objs.size [aj.heap.objs.size,d] [aj.heap.objs.size] ks.length (λ i v=>∃k x,L[i]? =some (k,x)/\(abh).is k v=true) (λ i h=>h.IsKeyIter aj.heap.objs.size d i L.length ep/\h.DictAt (abh) d L ep):=by rw [<-bl];exact W
   refine nJ aaQ (λ i hi v pv g le=>?_) (λ i h st=>?_) (λ i h st b hb=>?_) (λ b hb=>?_) (λ b hb=>?_) (λ b hb hn=>?_)
   ·refine bu pv λ k x h1 h2=>?_;refine aM (F1 h2) λ t dI=>?_;subst dI;have:(L.map (·.1))[i]? =some k:=by rw [List.getElem?_map,h1];rfl
    rw [hk,List.getElem?_map,List.getElem?_eq_getElem hi] at this;have:(ks[i]).s=k:=Option.some.inj this;exact bz.mpr ⟨t,by rw [this]⟩
   ·refine cZ st.1 λ o h1 h2 ξ=>?_;exact bW o _ h1 h2 bH
   ·rw [bj hb];refine aK st.1 λ o h1 ξ=>?_;exact ⟨o,h1⟩
   ·rw [bj hb];exact get_none (Nat.le_refl _)
   ·rcases cF hb with rfl|hb
    ·exact eO c₁.b4 (Nat.le_refl _)
    ·rw [bj hb];refine bu tT λ o ξ e ξ=>?_;exact mr e
   ·rcases cF hb with rfl|hb
    ·exact absurd (List.mem_singleton.mpr rfl) hn
    ·rw [bj hb];refine bu tT λ o ξ e ξ=>?_;exact ⟨o,e⟩
  ·intro b hb;show b<(aj.heap.push _).objs.size;rw [Heap.size_push];rcases cF hb with rfl|hb
   ·exact Nat.lt_succ_self _
   ·rw [bj hb];exact Nat.lt_succ_of_lt c4
def B4 {ai:List ι} {abL:ι->YJ} (hh:A.handled=none) (hz:Ev A sc ρ o P) (hP:∀g v,P.p g v->∃d L,v= .ref d/\(d==sysModules)=false/\g.DictOf (abh) d L/\AllP g (ai.map abL) (L.map (·.2)))
  (he:∀aa,∃pl:Sem Bool,eval (.Call (.Attribute o "values" bE) [] [] ar) aa=(do
   let ov<-eval o aa
   standAt bE.atName
   let (f,first)<-holding [ov] (getMethod ov "values" pl)
   callWith ar f first (backTo ar (starEach [] aa)) [])):jP A sc ρ (.Call (.Attribute o "values" bE) [] [] ar) ai abL Plain:=λ S aa s c=>by
 refine aM (he aa) λ pl e=>?_;rw [e];refine Z4 (hz.use c λ v aj k₁ c₁ aZ=>Z4 (ig (Z4 (XG ?_))));refine jR (hP _ _ aZ) λ d L il jL hd hk=>?_;subst il;refine aM hd.dictAt λ ep tT=>?_;have lg:aj.heap.DictAt (abh) d L ep:=tT.at' λ o e=>ao _ _ e;have o8:aj.heap.DictOf (abh) d L:=lg.dictOf;have bl:L.length=ai.length:=by have:=hk.length;simpa using this
 refine getMethod_builtin o8.typeIs PySem.F.plainAttrs_dict PySem.F.slot_dict_values PySem.F.type_dict_values o8.mapOf.noDict ?_;refine eg abl (wpAny_items_nil ⟨trivial,?_⟩);refine call_meetsIn PySem.F.slot_dict_values o8.typeIs PySem.F.entry_dict_values (PySem.F.args_dict_values_1 _) (meets_dict_values (abh) d jL) ⟨⟨L,o8⟩,?_⟩;have JG:(aj.heap.push {cls:=.type "dict_values",data:=.fields #[.ref d]}).DictAt (abh) d L ep:=lg.push _;have c4:d<(aj.heap.push {cls:=.type "dict_values",data:=.fields #[.ref d]}).objs.size:=JG.lt_size;refine eX aj k₁ (gK _ _ _) (wpAny_pyIter_values (knd:=abh) (s:={aj with heap:=aj.heap.push {cls:=.type "dict_values",data:=.fields #[.ref d]}}) ⟨_,Heap.get?_push_size _ rfl,rfl,rfl⟩ JG ?_);generalize hH:aj.heap.push {cls:=.type "dict_values",data:=.fields #[.ref d]}=H at*;have hle:XN aj.heap H:=λ b o e=>by rw [<-hH];exact cN _ e
 have hIn:aj.heap.get? H.objs.size=none:=get_none (by rw [<-hH,Heap.size_push];exact Nat.le_succ _);refine ⟨⟨_,_,rfl,λ b o e=>cN _ e⟩,H.objs.size,[H.objs.size,d],[H.objs.size],λ i h=>h.IsValIter H.objs.size d i L.length ep/\h.DictAt (abh) d L ep,rfl,?_,⟨⟨_,Heap.get?_push_size _ rfl,rfl,rfl⟩,JG.push _⟩,?_⟩
 ·have W:=Walks.dictValues (prog:=XX) (w:=w) (knd:=abh) hh H.objs.size d (Nat.ne_of_lt c4) L ep;have aaQ:Walks XX w A H.objs.size [H.objs.size,d] [H.objs.size] ai.length (λ i v=>∃k,L[i]? =some (k,v)) (λ i h=>h.IsValIter H.objs.size d i L.length ep/\h.DictAt (abh) d L ep):=by rw [<-bl];exact W
  refine nJ aaQ (λ i hi v pv g le=>?_) (λ i h st=>?_) (λ i h st b hb=>?_) (λ b hb=>?_) (λ b hb=>?_) (λ b hb hn=>?_)
  ·refine aM pv λ k h1=>?_;refine aK (hk.get (i:=i) (P:=abL ai[i]) (by rw [List.getElem?_map];simp [hi])) λ u h2 h3=>?_;rw [List.getElem?_map,h1] at h2;have:v=u:=Option.some.inj h2;rw [this];exact (abL _).mono le h3
  ·refine cZ st.1 λ o h1 h2 ξ=>?_;exact bW o _ h1 h2 bH
  ·rw [bj hb];refine aK st.1 λ o h1 ξ=>?_;exact ⟨o,h1⟩
  ·rw [bj hb];exact hIn
  ·rcases cF hb with rfl|hb
   ·intro m;refine aM (c₁.b4 _ m) λ o e=>?_;rw [hIn] at e;cases e
   ·rw [bj hb];refine bu tT λ o ξ e ξ=>?_;exact mr e
  ·rcases cF hb with rfl|hb
   ·exact absurd (List.mem_singleton.mpr rfl) hn
   ·rw [bj hb];refine bu tT λ o ξ e ξ=>?_;exact ⟨o,e⟩
 ·intro b hb;show b<(H.push _).objs.size;rw [Heap.size_push];rcases cF hb with rfl|hb
  ·exact Nat.lt_succ_self _
  ·rw [bj hb];exact Nat.lt_succ_of_lt c4
noncomputable def ny (ns:List abp):List Tx:=(ns.filter λ n=>decide (n.np=0)).map λ n=>n.node
def gv (σ:bQ) (R:Addr):bQ:={σ with R:=some R,bG:=ny σ.pl}
def yg {ai:List ι} {abL:ι->YJ} {β:ι->eV} {p:ι->Bool} {R:ι->YJ} {Q:Value->Shared->Prop}
  (ok:fS sc ρ ag) (hs:jP A sc ρ aG ai abL Ok) (iG:∀aa x,foldedSetIterable aG aa x=pure x) (bl:ai.length<=sizeLine) (g8:Ok aN)
  (ht:∀a∈ai,jn A (cg sc ag.names) (ownOf ag) aN (abL a) (β a))
  (ng:∀a∈ai,lM A (cg sc ag.names) (β a++e7 ag ρ) bA (p a))
  (ni:∀a∈ai,p a=true->Ev A (cg sc ag.names) (β a++e7 ag ρ) bP (R a)) (c:XK sc ρ S aa s.heap)
  (hQ:∀D s',Keeps s s'->s.heap.get? D=none->(cH ((ai.filter p).map R)).p (hide S s'.heap) (.ref D)->Q (.ref D) s'):
  wpAny (model XX w) A (eval (.ListComp bP [⟨aN,aG,bA,0⟩] ag ar) aa) Q E s:=by
 rw [eval_ListComp];refine mn ok hs iG bl g8 ht ng ni c λ D C s' k Zj Zw ne hn hw=>?_;refine aM hn λ m hm=>?_;refine cV m hm (λ h' gA=>hQ D _ ?_ Zw ?_)
 ·refine bu k λ dg mq c7 kk=>?_;subst c7;refine d8 h' mq rfl (λ b o e=>(gA.2 b ?_).trans (kk b o e));rintro rfl;rw [Zj] at e;cases e
 ·refine (cH _).mono ?_ hw;refine XN.trans (b5 (S:=C::S) λ b o hb e=>?_) (cT λ b hb=>Ym _ hb);exact (gA.2 b λ q=>hb (q▸di)).trans e
def ck.Sy {R:Addr} {t1 t2:Tok} {xs:List Tx} {vs:Array Value} (X:ck σ h) (hR:σ.R=none) (hs:Heap.SameBut σ.aaX h h') (hi:Af h' {σ with R:=some R,bG:=xs} m t1 t2) (hn:R∉σ.all) (hl:IsL h' R vs n) (ht:ia xs vs.toList):
  ck {σ with R:=some R,bG:=xs} h':=by
 have OR:σ.aaX∈σ.base:=bQ.Z3;have zN:σ.base=[σ.D,σ.aaX,σ.N]:=by unfold bQ.base;rw [hR];rfl
 have hB:=X.qT;rw [zN] at hB;have nb:R∉σ.base:=λ m=>hn (cW m);rw [zN] at nb;exact {
  qT:=by show (σ.D::σ.aaX::σ.N::[R]).Nodup;exact pw (l5 (fb (lK hB)) (l5 (fb (f3 (lK hB))) (l5 (fb nb).symm pq))) (pw (l5 (fb (lK (u5 hB))) (l5 (fb (f3 nb)).symm pq)) (pw (l5 (fb (f3 (f3 nb))).symm pq) (pw pq List.nodup_nil)))
  mQ:=λ e he=>⟨(X.mQ e he).1,λ c hc mm=>by have mm:c∈σ.D::σ.aaX::σ.N::[R]:=mm;exact (List.mem_append (s:=[σ.D,σ.aaX,σ.N]) (t:=[R]).mp mm).elim (λ q=>(X.mQ e he).2 c hc (zN▸q)) λ q=>hn (bj q▸gH he hc)⟩
  sF:=X.sF
  nn:=X.nn
  inst:=⟨m,t1,t2,hi⟩
  sys:=X.sys
  dict:=X.dict.at λ o e=>(hs.2 _ λ q=>fb (lK (u5 hB)) q.symm).trans e
  info:=λ e he=>(X.info e he).keeps λ c hc o q=>(hs.2 c λ z=>(X.mQ e he).2 c hc (z▸OR)).trans q
  bG:=λ R' qU=>by cases qU;exact ⟨vs,n,hl,ht⟩}
def tU {R:Addr} {xs:List Tx} (hR:σ.R=none):∀b,b∈bQ.all {σ with R:=some R,bG:=xs}->b∈σ.all\/b=R:=λ b m=>by
 rcases bR m with m|m
 ·have m:b∈σ.D::σ.aaX::σ.N::[R]:=m;exact (List.mem_append (s:=[σ.D,σ.aaX,σ.N]) (t:=[R]).mp m).elim (λ q=>.inl (cW (bL σ.R.toList q))) λ q=>.inr (bj q)
 ·exact .inl (bC _ m)
def JH:XC A (is ()) false:=λ S s v ξ p=>by rw [fe.mp p];exact X5 ⟨cB _,rfl⟩
def LV:(σ.es.filter λ e=>decide (e.nd.np=0)).map (λ e=>e.nd.node)=ny σ.pl:=by unfold ny bQ.pl;rw [List.filter_map,List.map_map];rfl
def eB (os:List (Addr×Obj)) (h:Heap):Prop:=∀p∈os,∃sl,h.get? p.1=some {p.2 with slots:=sl}
noncomputable abbrev dh (os:List (Addr×Obj)):List Addr:=os.map (·.1)
def bK (os:List (Addr×Obj)):XW:=⟨dh os,λ ξ h=>eB os h,λ ξ ξ ξ k x p m=>let ⟨sl,e⟩:=x p m;⟨sl,k p.1 (List.mem_map.mpr ⟨p,m,rfl⟩) _ e⟩⟩
structure iQ (l:List Env) (os:List (Addr×Obj)):Prop where
 ok:∀aa∈l,aa.scope.kind≠ .module/\∃p∈os,aa.frame=some p.1
 dict:∀p∈os,∃es n,p.2.data= .dict es n
def iQ.data {l:List Env} (f:iQ l os):∀p∈os,∀vs,p.2.data≠ .fields vs:=λ p m vs q=>by refine cS (f.dict p m) λ es n e=>?_;rw [e] at q;cases q
def eB.up (x:eB os h) (d:∀p∈os,∀vs,p.2.data≠ .fields vs) (k:h.UpToSlots h'):eB os h':=λ p m=>by refine aM (x p m) λ sl e=>?_;refine aM (k p.1 _ e λ vs=>d p m vs) λ GX e'=>?_;exact ⟨GX,e'⟩
def iQ.frames {l:List Env} {base:Heap} (f:iQ l os) (x:eB os h) (hb:∀p∈os,base.get? p.1=none):h.FunFrames base l:=by
 have a8:∀l:List Env,(∀aa∈l,aa.scope.kind≠ .module/\∃p∈os,aa.frame=some p.1)->h.FunFrames base l:=by
  intro l;induction l with
  |nil=>intro _;trivial
  |cons aa aD ih=>
   intro ok;refine s6 (ok aa di) λ hk p hp hf=>?_;refine aM (x p hp) λ sl e=>?_;exact iJ hk ⟨p.1,_,hf,hb p hp,e,f.data p hp⟩ (ih λ e he=>ok e (Ym _ he))
 exact a8 l f.ok
def YQ.nU (f:YQ sc ak F aw az aa ρ J S s):∃o,s.heap.get? aa.locals=some o/\∃es n,o.data= .dict es n:=by refine aM f.Zt.ns λ ξ fR=>?_;refine bw fR λ o es ep e d ξ=>?_;exact ⟨o,e,es,ep,d⟩
def iQ.push {o:Obj} (f:iQ aT os) (hk:aa.scope.kind= .function) (hf:aa.frame=some aa.locals) (hd:∃es n,o.data= .dict es n):iQ (aa::aT) ((aa.locals,o)::os):=
 ⟨λ e he=>by
  rcases cF he with rfl|he
  ·exact ⟨by rw [hk];decide,_,di,hf⟩
  ·refine s6 (f.ok e he) λ a p hp q=>?_;exact ⟨a,p,Ym _ hp,q⟩,
  λ p hp=>by
  rcases cF hp with rfl|hp
  ·exact hd
  ·exact f.dict p hp⟩
def YQ.Sz {D:List Addr} (f:YQ sc ak F aw az aa ρ J S s) (hb:∀b∈D,b=aa.locals\/b∈J.fp) (hs:∀b o,b∉D->s.heap.get? b=some o->h'.get? b=some o) (hl:∀b∈D,∃o,h'.get? b=some o)
  (hL:∀o,s.heap.get? aa.locals=some o->∃sl,h'.get? aa.locals=some {o with slots:=sl})
  (hn:∀b∈N,s.heap.get? b=none) (hN:∀b∈N,∃o,h'.get? b=some o) {tk:Nat} (hj:aa_.p (hide (N++S) h') h') (hf:∀b∈aa_.fp,b∈J.fp\/b∈N):YQ sc ak F aw az aa ρ aa_ (N++S) {s with heap:=h',toks:=tk}:=by
 have le:=iZ (λ b m=>by
  rcases hb b m with rfl|q
  ·exact f.Zt.loc
  ·exact (f.aar b q).1) hs hn
 have iX:∀n b v,aa.cells.lookup n=some b->s.heap.IsCell b v->b∉D:=λ n b v e Zg m=>by
  rcases hb b m with rfl|q
  ·refine aM f.Zt.ns λ ξ eL=>?_;refine bw eL λ o es ep a d ξ=>?_;refine aK Zg λ o' a' d'=>?_;rw [a] at a';injection a' with a';rw [<-a',d] at d';cases d'
  ·exact (f.aar b q).2.2.1 n e
 have NU:∀{m:Str->Option Value},s.heap.Ns aa.locals m->h'.Ns aa.locals m:=λ {m} ⟨o,es,ep,a,d,r⟩=>by refine aM (hL o a) λ sl q=>?_;exact jm _ es ep q d r
 have mT:∀b,s.heap.get? b=none->az.heap.get? b=none:=λ b h=>by
  cases e:az.heap.get? b with
  |none=>rfl
  |some o=>refine aM (f.aaH.live _ _ e) λ o' z=>?_;rw [h] at z;cases z
 have fx:∀b o,s.heap.get? b=some o->∃o',h'.get? b=some o':=λ b o e=>by
  by_cases m:b∈D
  ·exact hl b m
  ·exact ⟨o,hs b o m e⟩
 exact {
  cx:=⟨f.cx.names,f.cx.kind,f.cx.glob,f.cx.bi,λ n P e=>(f.cx.vars n P e).map (λ m v a q d=>bW m v (NU a) q (P.mono le d)) λ ξ c v a z d=>aK z λ o q r=>bW c v a ⟨o,hs _ _ (iX _ _ _ a ⟨o,q,r⟩) q,r⟩ (P.mono le d),λ b hb=>by
    rcases bR hb with m|m
    ·exact hN b m
    ·refine aM (f.cx.b4 b m) λ o e=>?_;exact fx b o e,f.cx.top.mono le⟩
  Zt:=⟨bC _ f.Zt.loc,let ⟨m,a⟩:=f.Zt.ns;⟨m,NU a⟩,λ n hn q=>by refine jR (f.Zt.gb n hn q) λ c v a b d z=>?_;refine aK d λ o abe r=>?_;exact jl c v a (bC _ b) ⟨o,hs _ _ (iX _ _ _ a ⟨o,abe,r⟩) abe,r⟩ z,f.Zt.inj⟩
  aaH:=by
   refine cS f.aaH.same λ yF Fs iM=>?_;refine ⟨⟨h',tk,by rw [iM]⟩,λ d o nd x=>?_,λ d o x=>let ⟨o',y⟩:=f.aaH.live d o x;fx d o' y⟩;refine hs d o (λ m=>?_) (f.aaH.keep d o nd x);rcases hb d m with rfl|m
   ·rw [f.loc] at x;cases x
   rcases (f.aar d m).2.2.2 with z|z
   ·exact nd z
   ·rw [x] at z;cases z
  sub:=λ b hb=>bC _ (f.sub b hb)
  new:=λ b hb=>by
   rcases bR hb with m|m
   ·exact .inr (mT b (hn b m))
   ·exact f.new b m
  loc:=f.loc
  gb:=f.gb
  cl:=λ n b e=>let ⟨o,q⟩:=f.cl n b e;fx b o q
  jp:=hj
  aar:=λ b hb=>by
   rcases hf b hb with m|m
   ·refine jw (f.aar b m) λ a1 a2 a3 a4=>?_;exact iD (bC _ a1) a2 a3 a4
   ·refine iD (bL _ m) (λ q=>?_) (λ n q=>?_) (.inr (mT b (hn b m)))
    ·refine aM f.Zt.ns λ ξ wW=>?_;refine cY wW λ o ξ ξ e ξ=>?_;rw [<-q,hn b m] at e;cases e
    ·refine aM (f.cl n b q) λ o e=>?_;rw [hn b m] at e;cases e}
def eS (os:List (Addr×Obj)) (l:List Env) (s:Shared) (ea:Addr) (X:String) (aE:List Value) (fl:Value) (s':Shared):Prop:=
 ∃t,(∃h tk,s'={s with heap:=h,toks:=tk})/\((hide (dh os) s.heap).StaysIn s'.heap/\(hide (dh os) s.heap).get? ea=none/\s'.heap.FunFrames (hide (dh os) s.heap) l/\s'.heap.TracedAtW (hide (dh os) s.heap) ea (.type X) (.ref t) fl)/\s'.heap.TupAt t aE/\(hide (dh os) s.heap).get? t=none/\eB os s'.heap
abbrev kA (os:List (Addr×Obj)) (l:List Env) (s:Shared) (ea:Addr) (X:String) (aE:List Value) (s':Shared):Prop:=eS os l s ea X aE .none s'
section
variable {Q:Unit->Shared->Prop}
def wX (m:b∈S):(hide S h).get? b=none:=by rw [bI,if_pos m]
def m0 (e:h.get? b=none):(hide S h).get? b=none:=by
 rw [bI];split
 ·rfl
 ·exact e
def sN {p:Addr×Obj} (m:p∈os):p.1∈dh os:=List.mem_map.mpr ⟨p,m,rfl⟩
def F2 (m:b∈dh os):∃p∈os,b=p.1:=let ⟨p,a,e⟩:=abQ m;⟨p,a,e.symm⟩
def eB.live (x:eB os h):∀b∈dh os,∃o,h.get? b=some o:=λ b m=>by refine aK (F2 m) λ p hp cX=>?_;subst cX;refine aM (x p hp) λ sl e=>?_;exact ⟨_,e⟩
def YQ.frames (f:YQ sc ak F aw az aa ρ J S s) {o:Obj} (ho:s.heap.get? aa.locals=some o) (hs:eB os s.heap):eB ((aa.locals,o)::os) s.heap:=λ p m=>by
 rcases cF m with rfl|m
 ·exact ⟨o.slots,ho⟩
 ·exact hs p m
def YQ.shift {o:Obj} (f:YQ sc ak F aw az aa ρ (K.and (bK os)) S s) (hd:∀b∈K.fp,b∉dh os) (ho:s.heap.get? aa.locals=some o)
  (hk:∀b x,b∉dh ((aa.locals,o)::os)->s.heap.get? b=some x->h'.get? b=some x) (hs:eB ((aa.locals,o)::os) h') {tk:Nat}:YQ sc ak F aw az aa ρ (K.and (bK os)) S {s with heap:=h',toks:=tk}:=by
 have VP:∀b∈K.fp,b∉dh ((aa.locals,o)::os):=λ b m q=>by
  rcases cF q with q|q
  ·exact (f.aar b (bL _ m)).2.1 q
  ·exact hd b m q
 have hD:∀b∈dh ((aa.locals,o)::os),b=aa.locals\/b∈(K.and (bK os)).fp:=λ b m=>by
  rcases cF m with q|q
  ·exact .inl q
  ·exact .inr (bC _ q)
 have le:=iZ (h:=s.heap) (h':=h') (S:=S) (D:=dh ((aa.locals,o)::os)) (N:=[]) (λ b m=>by
  rcases hD b m with rfl|q
  ·exact f.Zt.loc
  ·exact (f.aar b q).1) hk (λ b m=>nomatch m)
 refine f.Sz (N:=[]) (D:=dh ((aa.locals,o)::os)) hD hk hs.live (λ o' e=>?_) (λ b m=>nomatch m) (λ b m=>nomatch m) ⟨?_,?_⟩ λ b m=>.inl m
 ·rw [ho] at e;cases e;exact hs _ di
 ·exact K.st le ao ao (λ b m o e=>hk b o (VP b m) e) f.jp.1
 ·exact λ p m=>hs p (Ym _ m)
def YQ.Au {g:Value} {Q:Value->Shared->Prop} (f:YQ sc ak F aw az aa ρ (K.and (bK os)) S s) (hd:∀b∈K.fp,b∉dh os) (abF:iQ aT os) (hf:aa.frame=some aa.locals)
  (hS:∀b∈S',b∈S) (SA:∀b∈dh os,b∈S') (ir:aa.locals∈S')
  (op:∀qj,iQ (aa::aT) qj->wu A g YN (bK qj) (bK qj) P) (p:AllP (hide S' s.heap) YN vs)
  (k:∀v s',YQ sc ak F aw az aa ρ (K.and (bK os)) S s'->P.p (hide S' s'.heap) v->Q v s'):wpAny (model XX w) A (call g vs []) Q E s:=by
 refine aK f.nU λ o ho wY=>?_;refine Zh (op _ (abF.push f.cx.kind hf wY) S' s vs (f.cx.less hS).top (λ b m=>f.cx.b4 b (hS b m)) (λ b m=>?_) (f.frames ho f.jp.2) p) (λ v s' q=>?_) λ ξ ξ q=>q.elim
 ·rcases cF m with rfl|m
  ·exact ir
  ·exact SA b m
 ·refine eU q λ aaH hs pv=>?_;refine cS aaH.same λ h' tk ff=>?_;subst ff;exact k v _ (f.shift hd ho aaH.keep hs) pv
def eS.keep (x:eS os aT s ea X aE fl s') (k:Keeps s' gh):eS os aT s ea X aE fl gh:=by refine d5 x λ t fR SD ZU Zr sl=>?_;refine cS fR λ h tk SE=>?_;subst SE;refine jw SD λ f1 f2 abJ f4=>?_;refine bu k λ h' DM eK kk=>?_;subst eK;refine ⟨t,⟨h',DM,rfl⟩,⟨λ b o q=>kk _ _ (f1 b o q),f2,abJ.of_keeps λ b o q ξ=>cV o (kk _ _ q) rfl,?_⟩,ZU.keeps kk,Zr,λ p m=>let ⟨z,q⟩:=sl p m;⟨z,kk _ _ q⟩⟩;obtain ⟨oe,vs,T,aa1,ts,a,b,c,d,e',f,g,i,j⟩:=f4;exact ⟨oe,vs,T,aa1,ts,kk _ _ a,b,c,d,e',f,kk _ _ g,i,j⟩
def eS.fs {o:Obj} (f:YQ sc ak F aw az aa ρ (K.and (bK os)) S s) (hd:∀b∈K.fp,b∉dh os) (ho:s.heap.get? aa.locals=some o) (x:eS ((aa.locals,o)::os) (aa::aT) s ea X aE fl s'):YQ sc ak F aw az aa ρ (K.and (bK os)) S s':=by refine d5 x λ t gG fl ZU Zr sl=>?_;refine cS gG λ h tk SG=>?_;subst SG;exact f.shift hd ho (λ b z n e=>fl.1 b z (by rw [bI,if_neg n];exact e)) sl
def kA.land (hA:A.frames=some (aa::aT)) (hf:aa.frame=some aa.locals) (hd:∀p∈os,∀vs,p.2.data≠ .fields vs)
  (x:kA os (aa::aT) s ea X aE s') (k:∀aA,kA os (aa::aT) s ea X aE aA->Q () aA):
  wpAny M A (noteFrame (.ref ea) aa) (λ ξ aA=>wpAny M A (setFlight (.ref ea) none) Q E aA) E s':=by
 refine d5 x λ t gM fl ZU Zr sl=>?_;refine cS gM λ h tk Pq=>?_;subst Pq;refine wpAny_looks_onW hA hf fl λ B5 held sm=>?_;refine wpAny_landsW held λ k6 wZ qk=>k _ ⟨t,⟨k6,tk,rfl⟩,wZ,(ZU.of_slots sm).of_slots qk,Zr,eB.up (eB.up sl hd sm) hd qk⟩
def uO {base:Heap} {l:List Env} {cls a0:Value} {fr:Option Addr}
  (VQ:base.StaysIn s.heap) (hl:s.heap.FunFrames base l) (ht:s.heap.TracedAtW base ea cls a0 fl)
  (h:∀h',base.StaysIn h'->h'.FunFrames base l->h'.TracedAtW base ea cls a0 (fr.elim Value.none λ f=>rawInt f)->(∀b o,s.heap.get? b=some o->(∀vs,o.data≠ .fields vs)->h'.get? b=some o)->Q () {s with heap:=h'}):
  wpAny M A (setFlight (.ref ea) fr) Q E s:=by
 obtain ⟨oe,vs,T,aa1,ts,he,sq,hd,h1,SH,SI,hT,LW,h3⟩:=ht;have NV:3<ts.size:=(Array.getElem?_eq_some_iff.mp h3).1;have other:∀b,b≠T->(s.heap.update T (Obj.mapFields (·.setIfInBounds 3 (fr.elim Value.none λ f=>rawInt f)))).get? b=s.heap.get? b:=
  λ b hb=>Heap.get?_update_other _ _ (Ne.symm hb)
 have zc:∀b o,s.heap.get? b=some o->(∀vs,o.data≠ .fields vs)->b≠T:=λ b o hb JI q=>by rw [q,hT] at hb;injection hb with hb;subst hb;exact JI ts LW
 unfold setFlight;refine Z4 (wpAny_field he hd h1 ?_);rw [if_pos (show (Value.ref T !=Value.none)=true from by simp)];refine wpAny_setField hT LW NV (h _ (λ b o Pr=>(other b λ q=>by rw [q,SH] at Pr;cases Pr).trans (VQ b o Pr))
  (hl.of_keeps λ b o hb JI=>cV o ((other b (zc b o hb JI)).trans hb) rfl) ?_ λ b o hb JI=>(other b (zc b o hb JI)).trans hb)
 exact ⟨oe,vs,T,_,_,(other ea (Ne.symm SI)).trans he,sq,hd,h1,SH,SI,Heap.get?_update_self _ hT (Obj.isFreed_of_fields (Obj.data_mapFields LW _)),Obj.data_mapFields LW _,by simp [NV]⟩
def eS.F3 {fr:Option Addr} (hd:∀p∈os,∀vs,p.2.data≠ .fields vs) (x:eS os aT s ea X aE fl s') (k:∀aA,eS os aT s ea X aE (fr.elim Value.none λ f=>rawInt f) aA->Q () aA):wpAny M A (setFlight (.ref ea) fr) Q E s':=by refine d5 x λ t fO Ps ZU Zr sl=>?_;refine cS fO λ h tk Pu=>?_;subst Pu;refine jw Ps λ f1 f2 abJ f4=>?_;refine uO f1 abJ f4 λ k6 g1 g3 aad sm=>?_;have up:h.UpToSlots k6:=λ b o hb hn=>⟨o.slots,sm b o hb hn⟩;exact k _ ⟨t,⟨k6,tk,rfl⟩,⟨g1,f2,g3,aad⟩,ZU.of_slots up,Zr,eB.up sl hd up⟩
def eS.G6 {L:Addr} {E':Value->Shared->Prop} (hf:aa.frame=some L) (hd:∀p∈os,∀vs,p.2.data≠ .fields vs) (x:eS os aT s ea X aE fl s') (k:∀aA,eS os aT s ea X aE (rawInt L) aA->E' (.ref ea) aA):cameBackBy M A aa E' (.ref ea) s':=by have x':=x;refine d5 x' λ t gN Pw ZU Zr sl=>?_;refine cS gN λ h tk Px=>?_;subst Px;obtain ⟨f1,f2,abJ,oe,vs,T,aa1,ts,he,sq,D9,h1,r⟩:=Pw;unfold cameBackBy;refine Z4 (wpAny_field he D9 h1 ?_);rw [if_neg (show ¬((Value.ref T==Value.none)=true) from by simp),hf];exact x.F3 (fr:=some L) hd k
def eS.leave {L:Addr} (hf:aa.frame=some L) (hd:∀p∈os,∀vs,p.2.data≠ .fields vs) (x:eS os (aa::aT) s ea X aE (rawInt L) s') (k:∀aA,kA os aT s ea X aE aA->Q () aA):wpAny M A (leaving aa (.ref ea)) Q E s':=by have x':=x;refine d5 x' λ t gj En ZU Zr sl=>?_;refine cS gj λ h tk Py=>?_;subst Py;refine jw En λ f1 f2 abJ f4=>?_;unfold leaving;refine Z4 (wpAny_noteFrame_againW (base:=hide (dh os) s.heap) hf f4 ?_);refine x.F3 (fr:=none) hd λ aA y=>k _ ?_;refine d5 y λ t' a jy c d g=>?_;refine jw jy λ b1 b2 Pz abw=>?_;refine eU Pz λ ξ ξ XR=>?_;exact ph t' a ⟨b1,b2,XR,abw⟩ c d g
def YQ.B6 (f:YQ sc ak (dh os) aw az aa ρ (K.and (bK os)) S s) (hA:A.frames=some (aa::aT)) (hf:aa.frame=some aa.locals) (abF:iQ aT os) (hx:Heap.MadeExc s.heap h' ea X aE)
  (k:∀s',eS os (aa::aT) az ea X aE (rawInt aa.locals) s'->Q () s'):wpAny M A (noteFrame (.ref ea) aa) Q E {s with heap:=h'}:=by
 refine aK f.nU λ o ho wY=>?_;have SJ:(hide (dh os) az.heap).get? aa.locals=none:=m0 f.loc;refine cZ hx.there λ t he PA ht=>?_;have hk:=hx.keeps;have F4:(hide (dh os) az.heap).StaysIn s.heap:=λ b z q=>by
  rw [bI] at q;split at q
  ·cases q
  ·rename_i nb;exact f.aaH.keep b z nb q
 have fresh:∀b,s.heap.get? b=none->(hide (dh os) az.heap).get? b=none:=λ b hb=>by
  cases hq:(hide (dh os) az.heap).get? b with
  |none=>rfl
  |some o'=>have:=F4 b o' hq;rw [hb] at this;cases this
 have fr:s.heap.FunFrames (hide (dh os) az.heap) (aa::aT):=(abF.push f.cx.kind hf wY).frames (f.frames ho f.jp.2) λ p m=>by
  rcases cF m with rfl|m
  ·exact SJ
  ·exact wX (sN m)
 have fv:h'.FunFrames (hide (dh os) az.heap) (aa::aT):=fr.of_keeps λ b o q ξ=>cV o (hk _ _ q) rfl;have fh:(hide (dh os) az.heap).StaysIn h':=λ b z q=>hk _ _ (F4 _ _ q);unfold noteFrame;rw [hf];refine Z4 (wpAny_field (s:={s with heap:=h'}) (x:=.none) he rfl abl ?_);rw [if_neg bH];refine wpAny_entryW (base:=hide (dh os) az.heap) (s:={s with heap:=h'}) (a0:=.ref t) hA fv hf he fh (fresh _ hx.new) rfl (by simp) abl λ B5 hN=>?_;refine jw hN λ k1 k2 k3 aaI=>?_;refine cS f.aaH.same λ dg mq i9=>?_;exact k _ ⟨t,⟨B5,s.toks,by rw [i9]⟩,⟨k1,fresh _ hx.new,k2,k3⟩,Heap.TupAt.of_slots (h:=h') ⟨_,_,ht,rfl,rfl⟩ aaI,fresh _ PA,eB.up (eB.up f.jp.2 abF.data (.of_keeps hk)) abF.data aaI⟩
def kA.again (hd:∀p∈os,∀vs,p.2.data≠ .fields vs) (x:kA os aT s ea X aE s') (k:∀aA,kA os aT s ea X aE aA->Q () aA):wpAny M A (setFlight (.ref ea) none) Q E s':=by refine d5 x λ t wW fl ZU Zr sl=>?_;refine cS wW λ h tk PB=>?_;subst PB;exact lands_againW fl λ k6 wZ qk=>k _ ⟨t,⟨k6,tk,rfl⟩,wZ,ZU.of_slots qk,Zr,eB.up sl hd qk⟩
end
noncomputable def ql:List Char:=['/','a','b','z','.']
def lh (x:Tx):Prop:=∀c∈x.cs,c∈ql
noncomputable def nz (x:Tx):Tx:=⟨'\''::x.cs++['\'']⟩
def uP:∀c∈ql,Builtin.Str.reprChar 39 c.toNat=[c.toNat]:=by decide+kernel
def zd {x:Tx} (h:lh x):reprText x.s=(nz x).s:=by
 have hq:reprQuote x.s=39:=by
  unfold reprQuote;have:x.s.cps.contains 39=false:=by
   rw [Bool.eq_false_iff];intro hc;have:(39:Nat)∈x.s.cps:=by simpa using hc
   have:(39:Nat)∈x.cs.map Char.toNat:=by simpa [Tx.s] using this
   refine aK (abQ this) λ c hc e=>?_;have a8:∀c∈ql,c.toNat≠39:=by decide+kernel
   exact a8 c (h c hc) e
  rw [this];rfl
 unfold reprText;rw [hq];have a8:∀(l:List Char) (aO:Array Nat),(∀c∈l,c∈ql)->(l.map Char.toNat).foldl (λ out c=>out++(Builtin.Str.reprChar 39 c).toArray) aO=aO++(l.map Char.toNat).toArray:=by
  intro l;induction l with
  |nil=>intro aO _;simp
  |cons c l ih=>
   intro aO hl;rw [List.map_cons,List.foldl_cons,uP c (hl c di),ih _ λ d hd=>hl d (Ym _ hd)];simp
 show Str.mk _=Str.mk _;congr 1;have e:x.s.cps=(x.cs.map Char.toNat).toArray:=rfl;rw [<-Array.foldl_toList,e];rw [a8 _ _ h];simp [nz]
noncomputable def eo (x y:Tx):Tx:=⟨x.cs++y.cs⟩
def tV (x y:Tx):(eo x y).s=x.s++y.s:=by show Str.mk _=Str.mk _;congr 1;simp [eo,Tx.s]
def w0 {v:Expr} {a b:Tx} {t:Tx} {as bs:Str} {k1 k2:Nat} {p1 p2 p3:Pos} (ha:as=a.s) (hb:bs=b.s) (ht:lh t) (hl:t.cs.length<=1000) (Eo:a.cs.length<=1000) (SJ:b.cs.length<=1000) (he:Ev A sc ρ v (is t)):
  Ev A sc ρ (.JoinedStr [.Constant (.str as) k1 p1,.FormattedValue v 114 none p2,.Constant (.str bs) k2 p3] ar) (is (eo (eo a (nz t)) b)):=λ S aa s c=>by
 have VR:=br;have l1:∀x:Tx,x.s.length=x.cs.length:=λ x=>by simp [Tx.s,Str.length]
 have XO:(nz t).cs.length=t.cs.length+2:=by simp [nz]
 refine wpAny_JoinedStr ?_;show Joins _ _ _ [eval (.Constant (.str as) k1 p1) aa,eval (.FormattedValue v 114 none p2) aa,eval (.Constant (.str bs) k2 p3) aa] _ _ _;have e0:Str.empty++as=a.s:=by rw [ha];show Str.mk _=Str.mk _;congr 1;simp [Tx.s,Str.empty]
 refine (cD (A:=A) (sc:=sc) (ρ:=ρ) (ar:=p1) (k:=k1) a ha).use c λ W1 aj JJ c₁ A5=>?_;refine aM (bz.mp A5) λ t1 c7=>?_;subst c7;refine bW _ _ rfl ?_ ?_
 ·rw [<-ha,e0,l1];w_up
 rw [<-ha,e0];refine wpAny_FormattedValue_repr (he.use c₁ λ W2 aA JK c₂ Fg=>?_);refine aM (bz.mp Fg) λ t2 d6=>?_;subst d6;have hr:(reprText t.s).length<=sizeLine:=by rw [zd ht,l1,XO];w_up
 refine wpAny_pyReprObj_str (hsz:=hr) ?_;rw [zd ht];have VS:((nz t).s).length<=sizeLine:=by rw [l1,XO];w_up
 have cJ:∀(u:Tok) (aH:Shared),Keeps s aH->XK sc ρ S aa aH.heap->∃y VT,Value.str (nz t).s u=Value.str y VT/\(a.s++y).length<=sizeLine/\Joins (model XX w) A dj [eval (.Constant (.str bs) k2 p3) aa] (a.s++y) (λ out aj=>out.length<=sizeLine/\Keeps s {aj with toks:=aj.toks+1}/\(is (eo (eo a (nz t)) b)).p (hide S aj.heap) (.str out aj.toks)) aH:=by
  intro u aH iq lN;refine bW _ _ rfl ?_ ?_
  ·rw [<-tV,l1];show (a.cs++(nz t).cs).length<=_;rw [gD,XO];w_up
  refine (cD (A:=A) (sc:=sc) (ρ:=ρ) (ar:=p3) (k:=k2) b hb).use lN λ W3 bS PC lO SK=>?_;refine aM (bz.mp SK) λ t4 dI=>?_;subst dI;have e4:a.s++(nz t).s++b.s=(eo (eo a (nz t)) b).s:=by rw [tV,tV]
  have Yl:((eo (eo a (nz t)) b).s).length<=sizeLine:=by rw [l1];show ((a.cs++(nz t).cs)++b.cs).length<=_;rw [gD,gD,XO];w_up
  refine bW _ _ rfl ?_ ?_
  ·rw [e4];exact Yl
  ·show (_/\_/\_);rw [e4];exact iJ Yl (aL (aL iq PC) (dG _ _)) (bz.mpr ⟨_,rfl⟩)
 exact wpAny_formatField_str (hx:=VS) (cJ _ _ (aL (aL JJ JK) (dG _ _)) c₂) (cJ _ _ (aL (aL JJ JK) ⟨_,aA.toks+1+1,rfl,λ ξ ξ e=>e⟩) c₂)
def w2 {x:Tx} {np:Pos} (f:YQ sc ak F aw az aa ρ J S s) (hh:A.handled=none) (he:Ev A sc ρ e (is x)) (hk:sc.lookup ("ValueError":Str)=some .globalImplicit) (fh:∀aa:Env,starEach [e] aa=(false,eval e aa)::starEach [] aa)
  (k:∀aj h' ea tk,YQ sc ak F aw az aa ρ J S aj->Heap.MadeExc aj.heap h' ea "ValueError" [.str x.s tk]->E (.ref ea) {aj with heap:=h'}):
  wpAny (model XX w) A (execs (.Raise (some (.Call (.Name "ValueError" np) [e] [] be)) none ar::aD) aa) Q E s:=by
 have hl:=br;refine YF (Raise_madeB (he:=fh aa) PySem.F.excCall_ValueError PySem.F.excRaise_ValueError hh ((aQ (A:=A) (n:="ValueError") (v:=.type "ValueError") hk abd abl abd abl).use f.cx λ u aj k₁ c₁ aZ=>⟨aZ,?_⟩));refine j7 (he:=fh aa) (he.use c₁ λ v aA k₂ c₂ cG=>wpAny_items_nil ?_);refine aM (bz.mp cG) λ tk ff=>?_;subst ff;exact ⟨by show 1<=sizeLine;w_up,λ h' ea hm=>k aA h' ea tk (f.keep (aL k₁ k₂)) hm⟩
def Av {a:ι} {ai:List ι} {abL:ι->YJ} {β:eV}
  (f:YQ sc ak F aw az aa ρ J S s) (hs:jP A sc ρ aG (a::ai) abL Ok) (ou:Ok aN) (iG:∀x,foldedSetIterable aG aa x=pure x)
  (ht:jn A sc ak aN (abL a) β)
  (step:∀(K:XW) S' s',(∀b∈K.fp,b∉S)->YQ sc ak F aw az aa (β++ρ) (K.and J) S' s'->
   wpAny (model XX w) A (execs bM aa) (λ ξ ξ=>False) (notedBy (model XX w) A aa (cameBackBy (model XX w) A aa E)) s'):
  wpAny (model XX w) A (execs (.For aN aG bM [] ar::aD) aa) Q E s:=by
 refine YF (wpAny_For (hs:=iG) (Zh (hs S aa s f.cx) (λ xv aaq q=>?_) eY));refine cZ q λ aj k₁ kx q=>?_;refine Zh q (λ it aA q=>?_) eY;refine jH q λ k₂ I fp wr St eK W o6 Ny=>?_;subst eK;replace k₂:=aL kx k₂;have bN:=f.keep k₁;have r8:∀b∈fp,b∉wr->∃o,(hide (wr++S) aA.heap).get? b=some o:=λ b hb hn=>by
  refine aM (W.r8 b hb hn) λ o e=>?_;refine ⟨o,?_⟩;rw [bI,if_neg λ m=>?_]
  ·exact kle k₂ _ _ (ao _ _ e)
  ·rcases bR m with m|m
   ·exact hn m
   ·exact W.out b hb m
 have grow:XN (hide S aj.heap) (hide (wr++S) aA.heap):=dH (kle k₂) λ b hb=>by
  rcases bR hb with m|m
  ·exact .inr (W.new b m)
  ·exact .inl m
 have bh:YQ sc ak F aw az aa ρ ((kj W 0).and J) (wr++S) aA:=bN.yG k₂ W.new (λ b m=>W.live 0 _ o6 b m) (λ b hb=>hb) ⟨o6,r8,grow⟩;refine codeAny_forLoop_any (λ m s'=>s'=aA) (λ m s' hI=>?_) 0 rfl;subst hI;refine Zh (W.turn 0 (Nat.zero_lt_succ _) aN ou s' (wr++S) (λ v aA=>wpAny (model XX w) A (assign aN aa v) (λ ξ aA=>wpAny (model XX w) A (execs bM aa) (λ ξ ξ=>False) (notedBy (model XX w) A aa (cameBackBy (model XX w) A aa E)) aA) dj aA) bh.jp.1.1 bh.jp.1.2.2 (λ b m=>bL _ m) bh.cx.b4 λ v h' tk hv ip bq=>?_) (λ r aA q=>?_) eY
 ·have dS:XN (hide (wr++S) s'.heap) (hide (wr++S) h'):=b5 λ b o n e=>bq b o (λ m=>n (bL _ m)) e;have abf:YQ sc ak F aw az aa ρ ((kj W 1).and J) (wr++S) {s' with heap:=h',toks:=tk}:=by
   refine bh.Bl (D:=wr) (λ b m=>bL _ m) bq (λ b m=>W.live _ _ ip b m) ⟨⟨ip,λ b hb hn=>?_,bh.jp.1.2.2.trans dS⟩,?_⟩ λ d hd=>hd
   ·refine aM (bh.jp.1.2.1 b hb hn) λ o e=>?_;exact ⟨o,dS _ _ e⟩
   ·refine J.st dS ao ao (λ b hb o e=>bq b o (λ m=>?_) e) bh.jp.2;have hS:=(f.aar b hb).1;refine aM (bN.cx.b4 b hS) λ o' e'=>?_;rw [W.new b m] at e';cases e'
  refine ht ρ (wr++S) aa _ v _ _ abf.cx abf.Zt hv λ aH vN lN Bo vO=>?_;exact step (kj W 1) (wr++S) aH (λ b m=>W.out b (W.sub b m)) (abf.kept vN lN Bo vO)
 ·obtain ⟨v,rfl,q⟩:=q;refine Zh q (λ ξ aH q=>?_) eY;refine Zh q (λ ξ bS q=>?_) eY;exact Zh q (λ fl bY q=>q.elim) λ x bY q=>q
def nV (σ:bQ) (x:Tx):Tx:=match jk σ x with
 |none=>⟨" was not added using add()".toList⟩
 |some e=>if 0<=e.nd.np then ⟨" was not passed out (still not ready)".toList⟩ else ⟨" was already marked done".toList⟩
def dY (σ:bQ) (x:Tx):Tx:=eo (eo ⟨"node ".toList⟩ (nz x)) (nV σ x)
def XK.has (c:XK sc ρ S aa h) (hz:ρ.lookup z=some P) (hk:sc.lookup z=some .local):∃v,P.p (hide S h) v:=by have x:=c.vars z P hz;have B7:aa.kindOf z=some .local:=(c.kindOf z).trans hk;unfold et at x;rw [B7] at x;refine bU x λ m v a b d=>?_;exact ⟨v,d⟩
def XK.uN (c:XK sc ρ S aa h) (hz:ρ.lookup z=some (gI σ)) (hk:sc.lookup z=some .local):ck σ (hide S h):=let ⟨_,_,x⟩:=c.has hz hk;x
def rN {x:Tx} (h:jk σ x=some en):en∈σ.es/\en.nd.node=x:=by refine ⟨List.mem_of_find?_eq_some h,?_⟩;have:=List.find?_some h;simpa using this
def ze {x:Tx} (h:jk σ x=none):x∉σ.es.map λ e=>e.nd.node:=λ m=>by refine aK (abQ m) λ e he q=>?_;have:=List.find?_eq_none.mp h e he;simp [q] at this
def jh (A:Around) (os:List (Addr×Obj)) (aT:List Env) (σ:bQ) (R:Addr) (x:Tx):Prop:=∀{S:List Addr} {s:Shared} (hR:σ.R=some R) (abx:cy 1 A) (hA:A.frames=some aT) (abF:iQ aT os) (hp:lh x) (bl:x.cs.length<=1000) (hc:∀e,jk σ x=some e->0<=e.nd.np\/e.nd.np=-2) {vs:List Value} (T:er (hide S s.heap)) (fr:∀b∈S,∃o,s.heap.get? b=some o) (hS:∀b∈dh os,b∈S) (hJ:eB os s.heap) (p:AllP (hide S s.heap) [gI σ,is x] vs),wpAny (model XX w) A (call (.ref 162) vs []) (λ ξ ξ=>False) (λ e s'=>∃ea tk,e= .ref ea/\kA os aT s ea "ValueError" [.str (dY σ x).s tk] s') s
namespace op_done_refuse_v
def aau:=ev (U (U (U (U (U jh)))))
def abN:=aau.1.1.1.1.1
def j9:=aau.1.1.1.1.2
def j4:=aau.1.1.1.2
def bT:=aau.1.1.2
def abv:=aau.1.2
def xz:=aau.2
def Zk:jh abN j9 j4 bT abv xz:=by
 intro S s hR abx hA abF hp bl hc vs T fr hS hJ p;have hl:=br;refine rq (ρ:=[("self",gI bT),("nodes",f5 ([xz].map is))]) (J:=bK j9) (F:=dh j9) (o:=HN) T fr (by have:=abx.depth;show abN.depth<1000;w_up) (ao _ _ (T.k 162 _ abl)) rfl aaT ⟨161,HM,_,_,rfl,by rfl,rfl,rfl⟩ ["self","nodes"]
  (λ abN Q E k=>wt (a:="self") (p:="nodes") (YN:=[xz].map is) (by simp;w_up) (λ a vs=>by cases vs<;>rfl) S s vs abN Q E fr p λ b aj k₁ kZ=>k b aj k₁ (by rw [Zc.names kZ];rfl) kZ) abd abd hJ (λ b m=>⟨hS b m,m⟩) λ aa mD aA ξ ξ fv f=>?_
 have aY:=abx.deeper aa;have i0:(abN.deeper aa).frames=some (aa::j4):=by show abN.frames.map _=_;rw [hA];rfl
 generalize abN.deeper aa=A' at*;have hr:q4 bT.R= .ref abv:=by rw [hR];rfl
 refine f6 f (b:=false) ?_ nD λ ξ aj f=>?_
 ·exact bg (aV:=lit (.ref abv)) (a6:=is ()) ((p7 (σ:=bT) af).imp λ ξ ξ q=>by rw [hr] at q;exact q) ik (mZ abl) abl
 refine bf (aU f (P:=gW bT) (qg (σ:=bT) af) abd aR λ aA f=>?_);refine Av (a:=xz) (ai:=[]) (abL:=is) (Ok:=Plain) (β:=[("node",is xz)]) f (ki aY.handled af) (.name _ _) (λ ξ=>rfl) (bB abd) λ K S' aH hK f=>?_;have land:∀(m:Tx) (bS:Shared) (h':Heap) (ea:Addr) (tk:Tok) {gy:eV},dY bT xz=m->YQ (gE (nc 8 7)).names (ownOf (gE (nc 8 7))) (dh j9) S s aa gy (K.and (bK j9)) S' bS->Heap.MadeExc bS.heap h' ea "ValueError" [.str m.s tk]->
   notedBy (model XX w) A' aa (cameBackBy (model XX w) A' aa λ e gh=>wpAny (model XX w) A' (leaving aa e) (λ ξ aH=>∃ea tk,e= .ref ea/\kA j9 j4 s ea "ValueError" [.str (dY bT xz).s tk] aH) (λ e' aH=>∃ea tk,e'= .ref ea/\kA j9 j4 s ea "ValueError" [.str (dY bT xz).s tk] aH) gh) (.ref ea) {bS with heap:=h'}:=by
  intro m bS h' ea tk gy hm f hx;subst hm;refine f.B6 i0 fv abF hx λ bY fl=>?_;refine fl.G6 fv abF.data λ dK fl=>?_;exact fl.leave fv abF.data λ dT fl=>d8 ea tk rfl fl
 have W4:ck bT (hide S' aH.heap):=f.cx.uN (z:="self") abl abd;cases hq:jk bT xz with
 |none=>
  have hw:dY bT xz=eo (eo ⟨"node ".toList⟩ (nz xz)) ⟨" was not added using add()".toList⟩:=by unfold dY nV;rw [hq]
  refine qd (v:=.none) (b:=true) f f.cx (k8 (σ:=bT) (x:=xz) (λ h X=>by rw [uh (ze hq)];rfl) af af aR (λ ξ=>⟨_,rfl⟩)) abd abl abl abl (λ ξ bS f=>?_) xR;exact w2 (x:=eo (eo ⟨"node ".toList⟩ (nz xz)) ⟨" was not added using add()".toList⟩) f aY.handled (w0 (t:=xz) (a:=⟨"node ".toList⟩) (b:=⟨" was not added using add()".toList⟩) abl abl hp bl bH bH af) abd aR λ bY h' ea tk f hx=>land _ bY h' ea tk hw f hx
 |some en=>
  refine cO (rN hq) λ he jB=>?_;refine qd (v:=.ref en.a) (b:=false) f f.cx (k8 (σ:=bT) (x:=xz) (λ h X=>by rw [<-jB,mG X.nn he];rfl) af af aR (λ ξ=>⟨_,rfl⟩)) abd abl abl abl (by simp) λ ξ bS f=>?_;have SM:ck bT (hide S' bS.heap):=f.cx.uN (z:="self") abl abd;refine bf (ku f (f.cx.word (z:="nodeinfo") (W:=o4 bT en) abl ⟨rfl,SM⟩) (P:=is en.nd.np) (Al he af) yU abd aR λ bY f=>?_);refine f6 f (b:=true) ?_ (λ ξ dK f=>?_) xR
  ·have e1:(!decide (en.nd.np=(-1:Int)))=true:=by
    have:¬en.nd.np=(-1:Int):=by rcases hc en hq with h|h<;>w_up
    simp [this]
   rw [<-e1];exact bg (aV:=is en.nd.np) (a6:=is (-1:Int)) af ((cI (v:=.int (-1) 261) abd abd abl).imp λ ξ ξ q=>bD.mpr ⟨_,q⟩) (iF aY bH) abl
  by_cases h0:0<=en.nd.np
  ·have hw:dY bT xz=eo (eo ⟨"node ".toList⟩ (nz xz)) ⟨" was not passed out (still not ready)".toList⟩:=by unfold dY nV;rw [hq];simp only [if_pos h0]
   refine f6 f (b:=true) ?_ (λ ξ dT f=>?_) xR
   ·have e1:decide (en.nd.np>=(0:Int))=true:=by simpa using h0
    rw [<-e1];exact bg (aV:=is en.nd.np) (a6:=is (0:Int)) af bX vd abl
   exact w2 (x:=eo (eo ⟨"node ".toList⟩ (nz xz)) ⟨" was not passed out (still not ready)".toList⟩) f aY.handled (w0 (t:=xz) (a:=⟨"node ".toList⟩) (b:=⟨" was not passed out (still not ready)".toList⟩) abl abl hp bl bH bH af) abd aR λ bY h' ea tk f hx=>land _ bY h' ea tk hw f hx
  ·have hw:dY bT xz=eo (eo ⟨"node ".toList⟩ (nz xz)) ⟨" was already marked done".toList⟩:=by unfold dY nV;rw [hq];simp only [if_neg h0]
   refine f6 f (b:=false) ?_ nD λ ξ dT f=>?_
   ·have e1:decide (en.nd.np>=(0:Int))=false:=by simp;w_up
    rw [<-e1];exact bg (aV:=is en.nd.np) (a6:=is (0:Int)) af bX vd abl
   have h2:en.nd.np=-2:=(hc en hq).resolve_left h0;refine f6 f (b:=true) ?_ (λ ξ dT f=>?_) xR
   ·have e1:decide (en.nd.np=(-2:Int))=true:=by simp [h2]
    rw [<-e1];exact bg (aV:=is en.nd.np) (a6:=is (-2:Int)) af ((cI (v:=.int (-2) 264) abd abd abl).imp λ ξ ξ q=>bD.mpr ⟨_,q⟩) (iE aY bH) abl
   exact w2 (x:=eo (eo ⟨"node ".toList⟩ (nz xz)) ⟨" was already marked done".toList⟩) f aY.handled (w0 (t:=xz) (a:=⟨"node ".toList⟩) (b:=⟨" was already marked done".toList⟩) abl abl hp bl bH bH af) abd aR λ bY h' ea tk f hx=>land _ bY h' ea tk hw f hx
end op_done_refuse_v
def uQ {R:Addr} {x:Tx}:jh A os aT σ R x:=s7 (U (U (U (U (U jh))))) op_done_refuse_v.Zk (((((A,os),aT),σ),R),x)
def m5:Slot "list_iterator" "__getattribute__" "object.__getattribute__":=
 .of (owner:="object") (n:="__getattribute__") (by rw [typeLookup_type,builtinLookup_eq_fast];kernel_rfl) abd abd abd
  (by first|exact .inl abd|exact .inr abd) (by rw [isSubtype_type];kernel_rfl)
def Ep:entryFor table "object.__getattribute__"=some Builtin.«object.__getattribute__»:=entryFor_of_tree (by kernel_rfl)
def JL (a b:Value):argsOk "object.__getattribute__" ⟨[a,b],[]⟩:=by unfold argsOk;kernel_rfl
def lH:typeOf (.builtin "list_iterator.__next__")=pure (.type "wrapper_descriptor"):=by kernel_rfl
def oK:Slot "wrapper_descriptor" "__get__" "wrapper_descriptor.__get__":=
 .of (owner:="wrapper_descriptor") (n:="__get__") (by rw [typeLookup_type,builtinLookup_eq_fast];kernel_rfl) abd abd abd
  (by first|exact .inl abd|exact .inr abd) (by rw [isSubtype_type];kernel_rfl)
def Er:typeLookup (.type "wrapper_descriptor") "__set__"=pure none:=by rw [typeLookup_type,builtinLookup_eq_fast];kernel_rfl
def Es:typeLookup (.type "wrapper_descriptor") "__delete__"=pure none:=by rw [typeLookup_type,builtinLookup_eq_fast];kernel_rfl
def yh:entryFor table "wrapper_descriptor.__get__"=some Builtin.«wrapper_descriptor.__get__»:=entryFor_of_tree (by kernel_rfl)
def Aw (a b c:Value):argsOk "wrapper_descriptor.__get__" ⟨[a,b,c],[]⟩:=by unfold argsOk;kernel_rfl
def yi:isSubtype (.type "list_iterator") (.type (".".intercalate ("list_iterator.__next__".cutAt '.').dropLast))=pure true:=by
 have e0:"list_iterator.__next__".cutAt '.'=["list_iterator","__next__"]:=by first|rfl|decide+kernel
 have e1:(".".intercalate ("list_iterator.__next__".cutAt '.').dropLast)="list_iterator":=by rw [e0];decide+kernel
 rw [e1,isSubtype_type];kernel_rfl
noncomputable def iR (I:Addr):Obj:={cls:=.type "method-wrapper",data:=.fields #[.builtin "list_iterator.__next__",.ref I]}
section
variable {g:Array GenState} {t:Nat} {os:OsState} {o:Obj}
def LX {w:World} {R:Result->Shared->Prop} (hx:h.get? a=some o) (hc:o.cls= .type "list_iterator") (hq:R (.ok (.ret (.ref h.objs.size))) ⟨h.push (iR a),g,d,t,os⟩):
  codeAny (model prog w) A (.call (.builtin "wrapper_descriptor.__get__") ⟨[.builtin "list_iterator.__next__",.ref a,.type "list_iterator"],[]⟩) R ⟨h,g,d,t,os⟩:=by
 have hT:(⟨h,g,d,t,os⟩:Shared).TypeIs (.ref a) "list_iterator":=⟨_,hx,hc⟩;have SN:(⟨h,g,d,t,os⟩:Shared).TypeIs (.builtin "list_iterator.__next__") "wrapper_descriptor":=lH;have f8:=yi;refine codeAny_call_builtin oK.plain yh (oK.check _ _ _ _ _ _ _ _ SN (Aw _ _ _) ?_);repeat (any_goals (first|assumption|wp_step))
def G7 {w:World} {tk:Tok} {Q:Fin->Shared->Prop} (hx:h.get? a=some o) (hc:o.cls= .type "list_iterator") (JM:o.dict=none) {fs:Array Value} (hd:o.data= .fields fs) (hq:Q (.done (.ret (.ref h.objs.size))) ⟨h.push (iR a),g,d,t,os⟩):
  wpAny (model prog w) A (Builtin.«object.__getattribute__» ⟨[.ref a,.str "__next__" tk],[]⟩) Q E ⟨h,g,d,t,os⟩:=by
 have hT:(⟨h,g,d,t,os⟩:Shared).TypeIs (.ref a) "list_iterator":=⟨_,hx,hc⟩;have SN:(⟨h,g,d,t,os⟩:Shared).TypeIs (.builtin "list_iterator.__next__") "wrapper_descriptor":=lH;have f4:=slot_listiter_next.lookup;have aal:=lH;have Zs:=oK.lookup;have XZ:=Er;have f8:=Es;repeat (any_goals (first|assumption|wp_step))
 rw [hd];dsimp only;unfold instanceDict;refine Z4 (wpAny_loadPart_at hx ?_);dsimp only;rw [hc,JM];dsimp only;refine X5 ?_;repeat (any_goals (first|assumption|with_reducible apply LX hx hc|wp_step))
def JN {w:World} {tk:Tok} {R:Result->Shared->Prop} (hx:h.get? a=some o) (hc:o.cls= .type "list_iterator") (JM:o.dict=none) {fs:Array Value} (hd:o.data= .fields fs) (hq:R (.ok (.ret (.ref h.objs.size))) ⟨h.push (iR a),g,d,t,os⟩):
  codeAny (model prog w) A (.call (.builtin "object.__getattribute__") ⟨[.ref a,.str "__next__" tk],[]⟩) R ⟨h,g,d,t,os⟩:=
 codeAny_call_builtin m5.plain Ep (m5.check _ _ _ _ _ _ _ _ (show (⟨h,g,d,t,os⟩:Shared).TypeIs (.ref a) "list_iterator" from ⟨_,hx,hc⟩) (JL _ _) (G7 hx hc JM hd hq))
def G8 {w:World} {tk:Tok} {b:Bool} {Q:Value->Shared->Prop} (hx:h.get? a=some o) (hc:o.cls= .type "list_iterator") (JM:o.dict=none) {fs:Array Value} (hd:o.data= .fields fs) (hq:Q (.ref h.objs.size) ⟨h.push (iR a),g,d,t+1,os⟩):
  wpAny (model prog w) A (getAttr (.ref a) "__next__" b) Q E ⟨h,g,d,t,os⟩:=by
 unfold getAttr;have hT:(⟨h,g,d,t+1,os⟩:Shared).TypeIs (.ref a) "list_iterator":=⟨_,hx,hc⟩;have f2:=m5.lookup;have abJ:=m5.bind (.ref a);repeat (any_goals (first|assumption|wp_step))
 rw [show onTheHeap (.builtin "object.__getattribute__")=false from rfl,Bool.and_false,if_neg bH];unfold boundAndCalled;rw [abJ];refine Z4 (X5 ?_);refine wpAny_call (JN hx hc JM hd ?_);exact X5 hq
end
section
variable {W L:Addr} {t:Tok}
noncomputable def j5 (L:Addr) (i:Nat):Obj:={cls:=.type "list_iterator",data:=.fields #[.ref L,rawInt i]}
noncomputable def B8 (i:Nat):Obj:={cls:=.type "list_iterator",data:=.fields #[.none,rawInt i]}
def w3 {w:World} {Q:Value->Shared->Prop} (hW:s.heap.get? W=some (iR I)) (hI:s.TypeIs (.ref I) "list_iterator")
  (hc:wpAny (model prog w) A.in1 (Builtin.«list_iterator.__next__» ⟨[.ref I],[]⟩) (λ fin s'=>∃v,fin= .done (.ret v)/\Q v s') E s):wpAny (model prog w) A (call (.ref W) [] []) Q E s:=by
 refine wpAny_call (codeAny_of_tree ?_);show wpAny _ _ (callAny (.ref W) ⟨[],[]⟩) _ _ _;unfold callAny;refine Z4 (wpAny_load hW ?_);show wpAny _ _ (if (Value.type "method-wrapper"==Value.type "method"||Value.type "method-wrapper"==Value.type "builtin_function_or_method"||Value.type "method-wrapper"==Value.type "method-wrapper")=true then _ else _) _ _ _;rw [if_pos bH];show wpAny _ _ (if (Value.type "method-wrapper"!=Value.type "method")=true then _ else _) _ _ _;rw [if_pos bH];refine Z4 (wpAny_of_eq (a:=()) ?_ ?_)
 ·show checkBoundCall "list_iterator.__next__" ⟨[.ref I],[]⟩=pure ();unfold checkBoundCall
  kernel_rfl
 refine X5 ?_;refine ⟨Code.quiet_builtin _ abd,codeAny_builtin entry_listiter_next ?_⟩;rw [Around.under_plainId slot_listiter_next.plain _];refine Zh hc (λ fin aj q=>?_) dp;obtain ⟨v,rfl,q⟩:=q;exact q
def Et {w:World} {Q:Value->Shared->Prop} (hW:s.heap.get? W=some (iR I)) (hI:s.heap.get? I=some (j5 L i)) (hL:IsL s.heap L xs n) (c4:i<xs.size)
  (hq:∀h',h'.get? I=some (j5 L (i+1))->Heap.SameBut I s.heap h'->Q xs[i] {s with heap:=h'}):wpAny (model prog w) A (call (.ref W) [] []) Q E s:=by
 refine w3 hW ⟨_,hI,rfl⟩ ?_;have hd:(j5 L i).data= .fields #[.ref L,rawInt i]:=rfl;show wpAny _ _ (field (.ref I) 0>>=_) _ _ s;refine Z4 (wpAny_field hI hd (x:=.ref L) rfl ?_);show wpAny _ _ (if (Value.ref L==Value.none)=true then _ else _) _ _ s;rw [if_neg (show ¬((Value.ref L==Value.none)=true) from Bool.false_ne_true)];show wpAny _ _ (field (.ref I) 1>>=_) _ _ s;refine Z4 (wpAny_field hI hd (x:=rawInt i) rfl ?_);show wpAny _ _ (seqItems? (.ref L)>>=_) _ _ s;refine Z4 (wpAny_seqItems hL rfl ?_);have hx:xs[i]? =some xs[i]:=Array.getElem?_eq_getElem c4;simp only [Int.toNat_natCast,hx];refine Z4 (wpAny_setField hI hd (by simp) (X5 ⟨xs[i],rfl,hq _ ?_ (Heap.SameBut.update ..)⟩));rw [Heap.get?_update_self _ hI (Obj.isFreed_of_fields (Obj.data_mapFields hd _))];rfl
structure MadeX (h h':Heap) (e:Addr) (X:String):Prop where
 keeps:∀b o,h.get? b=some o->h'.get? b=some o
 new:h.get? e=none
 there:∃t vs,h'.get? e=some {cls:=.type X,data:=.fields vs}/\vs[0]? =some (.ref t)/\vs[1]? =some .none/\h.get? t=none/\h'.get? t=some {cls:=.type "tuple",data:=.seq #[]}
def w4 {w:World} {Q:Value->Shared->Prop} (hh:A.handled=none) (hW:s.heap.get? W=some (iR I)) (hI:s.heap.get? I=some (j5 L i)) (hL:IsL s.heap L xs n) (GK:xs.size<=i)
  (hq:∀h' rz ea,h'.get? I=some (B8 i)->Heap.SameBut I s.heap h'->MadeX h' rz ea "StopIteration"->E (.ref ea) {s with heap:=rz}):wpAny (model prog w) A (call (.ref W) [] []) Q E s:=by
 refine w3 hW ⟨_,hI,rfl⟩ ?_;have hd:(j5 L i).data= .fields #[.ref L,rawInt i]:=rfl;show wpAny _ _ (field (.ref I) 0>>=_) _ _ s;refine Z4 (wpAny_field hI hd (x:=.ref L) rfl ?_);show wpAny _ _ (if (Value.ref L==Value.none)=true then _ else _) _ _ s;rw [if_neg (show ¬((Value.ref L==Value.none)=true) from Bool.false_ne_true)];show wpAny _ _ (field (.ref I) 1>>=_) _ _ s;refine Z4 (wpAny_field hI hd (x:=rawInt i) rfl ?_);show wpAny _ _ (seqItems? (.ref L)>>=_) _ _ s;refine Z4 (wpAny_seqItems hL rfl ?_);have hx:xs[i]? =none:=Array.getElem?_eq_none GK;simp only [Int.toNat_natCast,hx];refine Z4 (wpAny_rule (Z4 (wpAny_setField hI hd (by simp) ?_)));show wpAny _ _ (newExc (.type "StopIteration") []>>=_) _ _ _;refine Z4 ?_;simp only [newExc,newTuple];refine Z4 (wpAny_newObj_type ?_ (by size_fits));refine Z4 (m:=firstArgMember _ _) (wpAny_of_eq (a:=Value.none) (by first|rfl|(simp only [firstArgMember];rfl)) ?_);refine wpAny_newObj_type ?_ (by size_fits);unfold raiseNew;refine Z4 (wpAny_handled ?_);rw [show A.in1.handled=none from hh];refine Z4 (X5 (wpAny_throw ?_));refine hq (s.heap.update I (Obj.mapFields (·.setIfInBounds 0 .none))) _ _ ?_ (Heap.SameBut.update ..) ⟨λ b o e=>cN _ (cN _ e),Heap.get?_none_of_le (by simp),?_⟩
 ·rw [Heap.get?_update_self _ hI (Obj.isFreed_of_fields (Obj.data_mapFields hd _))];rfl
 ·exact ⟨_,_,Heap.get?_push_size _ rfl,rfl,rfl,Heap.get?_none_of_le (Nat.le_refl _),cN _ (Heap.get?_push_size _ rfl)⟩
end
structure fE where
 W:Addr
 I:Addr
 b:Addr
 i:Option Nat
structure ka where
 ZN:Addr
 aa0:Addr
 YM:Addr
 Yn:Addr
 fU:List Tx
 its:List fE
 seen:List Tx
 keys:List Tx
noncomputable def ka.base (c:ka):List Addr:=[c.ZN,c.aa0,c.YM,c.Yn]
def ka.all (c:ka):List Addr:=c.base++c.its.flatMap λ f=>[f.W,f.I]
def w5 (h:Heap) (f:fE):Prop:=match f.i with
 |some i=>h.get? f.I=some (j5 f.b i)
 |none=>∃j,h.get? f.I=some (B8 j)
structure dN (c:ka) (h:Heap):Prop where
 apart:c.all.Nodup
 fU:∃vs n,IsL h c.ZN vs n/\ia c.fU vs.toList
 its:∃n,IsL h c.aa0 (c.its.map λ f=>Value.ref f.W).toArray n
 seen:h.SetOf (abh) c.YM (λ k=>decide (k∈c.seen.map Tx.s)) c.seen.length
 dict:∃L,h.DictOf (abh) c.Yn L/\L.map (·.1)=c.keys.map Tx.s
 sys:(c.Yn==sysModules)=false
 fr:∀f∈c.its,h.get? f.W=some (iR f.I)/\w5 h f
def ka.Ax {c:ka} {f:fE} (hf:f∈c.its):f.W∈c.all/\f.I∈c.all:=
 ⟨bC _ (List.mem_flatMap.mpr ⟨f,hf,by simp⟩),bC _ (List.mem_flatMap.mpr ⟨f,hf,by simp⟩)⟩
def w5.at {f:fE} (x:w5 h f) (k:∀o,h.get? f.I=some o->h'.get? f.I=some o):w5 h' f:=by
 unfold w5 at x⊢;cases e:f.i with
 |some i=>rw [e] at x;exact k _ x
 |none=>rw [e] at x;exact aM x λ j e=>⟨j,k _ e⟩
section
variable {c:ka}
def jN {S:Str->Bool} (x:h.SetOf (abh) a S n) (k:∀o,h.get? a=some o->h'.get? a=some o):h'.SetOf (abh) a S n:=by refine rX x λ o es ep t e r=>?_;exact pn o es ep t (k _ e) r
def dZ:c.ZN∈c.base/\c.aa0∈c.base/\c.YM∈c.base/\c.Yn∈c.base:=⟨List.mem_cons_self,Ym _ List.mem_cons_self,Ym _ (Ym _ List.mem_cons_self),Ym _ (Ym _ (Ym _ List.mem_cons_self))⟩
def dN.gV (x:dN c h) (k:∀b∈c.all,∀o,h.get? b=some o->h'.get? b=some o):dN c h' where
 apart:=x.apart
 fU:=let ⟨vs,n,a,b⟩:=x.fU;⟨vs,n,k _ (bL _ dZ.1) _ a,b⟩
 its:=let ⟨n,a⟩:=x.its;⟨n,k _ (bL _ dZ.2.1) _ a⟩
 seen:=jN x.seen λ o e=>k _ (bL _ dZ.2.2.1) o e
 dict:=let ⟨L,a,b⟩:=x.dict;⟨L,a.at λ o e=>k _ (bL _ dZ.2.2.2) o e,b⟩
 sys:=x.sys
 fr:=λ f hf=>⟨k _ (ka.Ax hf).1 _ (x.fr f hf).1,(x.fr f hf).2.at λ o e=>k _ (ka.Ax hf).2 o e⟩
def jr (c:ka):XW:=⟨c.all,λ ξ h=>dN c h,λ ξ ξ ξ k x=>x.gV k⟩
def dN.ne (x:dN c h):c.ZN≠c.aa0/\c.ZN≠c.YM/\c.ZN≠c.Yn/\c.aa0≠c.YM/\c.aa0≠c.Yn/\c.YM≠c.Yn:=by have b:[c.ZN,c.aa0,c.YM,c.Yn].Nodup:=(List.nodup_append.mp x.apart).1;exact rY (fb (lK b)) (fb (f3 (lK b))) (fb (f3 (f3 (lK b)))) (fb (lK (u5 b))) (fb (f3 (lK (u5 b)))) (fb (lK (u5 (u5 b))))
def dN.JO (x:dN c h) {f:fE} (hf:f∈c.its):∀b∈c.base,b≠f.W/\b≠f.I:=λ b hb=>by have:=(List.nodup_append.mp x.apart).2.2;exact ⟨this b hb f.W (List.mem_flatMap.mpr ⟨f,hf,by simp⟩),this b hb f.I (List.mem_flatMap.mpr ⟨f,hf,by simp⟩)⟩
def dN.JP {d:Addr} (x:dN c h) (hd:d∈c.base) (hs:Heap.SameBut d h h') {fU keys:List Tx}
  (h1:(d≠c.ZN/\fU=c.fU)\/∃vs n,IsL h' c.ZN vs n/\ia fU vs.toList)
  (h3:(d≠c.YM/\seen=c.seen)\/h'.SetOf (abh) c.YM (λ k=>decide (k∈seen.map Tx.s)) seen.length)
  (h4:(d≠c.Yn/\keys=c.keys)\/∃L,h'.DictOf (abh) c.Yn L/\L.map (·.1)=keys.map Tx.s) (h2:d≠c.aa0):dN {c with fU:=fU,seen:=seen,keys:=keys} h' where
 apart:=x.apart
 fU:=by
  rcases h1 with ⟨a,rfl⟩|q
  ·refine bu x.fU λ vs n e t=>?_;exact d8 vs n ((hs.2 _ (Ne.symm a)).trans e) t
  ·exact q
 its:=by refine aM x.its λ n e=>?_;exact ⟨n,(hs.2 _ (Ne.symm h2)).trans e⟩
 seen:=by
  rcases h3 with ⟨a,rfl⟩|q
  ·exact jN x.seen λ o e=>(hs.2 _ (Ne.symm a)).trans e
  ·exact q
 dict:=by
  rcases h4 with ⟨a,rfl⟩|q
  ·refine aK x.dict λ L e t=>?_;exact cV L (e.at λ o e=>(hs.2 _ (Ne.symm a)).trans e) t
  ·exact q
 sys:=x.sys
 fr:=λ f hf=>⟨(hs.2 _ (Ne.symm (x.JO hf d hd).1)).trans (x.fr f hf).1,(x.fr f hf).2.at λ o e=>(hs.2 _ (Ne.symm (x.JO hf d hd).2)).trans e⟩
def dN.push {W:Addr} (x:dN c h) (hs:∀b o,b≠c.aa0->h.get? b=some o->h'.get? b=some o) (hW:W∉c.all) (hI:I∉c.all) (PD:W≠I) (ZO:h'.get? W=some (iR I)) (aan:h'.get? I=some (j5 b 0))
  (hl:IsL h' c.aa0 ((c.its++[fE.mk W I b (some 0)]).map λ f:fE=>Value.ref f.W).toArray n):dN {c with its:=c.its++[fE.mk W I b (some 0)]} h':=by
 refine gF x.ne λ n1 n2 ZV aa5 YS abq=>?_;exact {
  apart:=by
   show (c.base++(c.its++[fE.mk W I b (some 0)]).flatMap λ f:fE=>[f.W,f.I]).Nodup;rw [List.flatMap_append,<-List.append_assoc];refine List.nodup_append.mpr ⟨x.apart,by simp [PD],λ a ha b hb=>?_⟩;have hb:b=W\/b=I:=by simpa using hb
   rcases hb with rfl|rfl
   ·exact λ q=>hW (q▸ha)
   ·exact λ q=>hI (q▸ha)
  fU:=let ⟨vs,n,a,b⟩:=x.fU;⟨vs,n,hs _ _ n1 a,b⟩
  its:=⟨n,hl⟩
  seen:=jN x.seen λ o e=>hs _ _ (Ne.symm aa5) e
  dict:=let ⟨L,a,b⟩:=x.dict;⟨L,a.at λ o e=>hs _ _ (Ne.symm YS) e,b⟩
  sys:=x.sys
  fr:=λ f hf=>by
   rcases bR hf with hf|hf
   ·have q:=x.JO hf c.aa0 dZ.2.1;exact ⟨hs _ _ (Ne.symm q.1) (x.fr f hf).1,(x.fr f hf).2.at λ o e=>hs _ _ (Ne.symm q.2) e⟩
   ·rw [bj hf];exact ⟨ZO,aan⟩}
def dN.pop {f:fE} {l:List fE} (x:dN c h) (e:c.its=l++[f]) (hs:Heap.SameBut c.aa0 h h') (hl:IsL h' c.aa0 (l.map λ f=>Value.ref f.W).toArray n):dN {c with its:=l} h':=by
 refine gF x.ne λ n1 n2 ZV aa5 YS abq=>?_;exact {
  apart:=by have:=x.apart;show (c.base++l.flatMap λ f:fE=>[f.W,f.I]).Nodup;unfold ka.all at this;rw [e,List.flatMap_append,<-List.append_assoc] at this;exact (List.nodup_append.mp this).1
  fU:=let ⟨vs,n,a,b⟩:=x.fU;⟨vs,n,(hs.2 _ n1).trans a,b⟩
  its:=⟨n,hl⟩
  seen:=jN x.seen λ o e=>(hs.2 _ (Ne.symm aa5)).trans e
  dict:=let ⟨L,a,b⟩:=x.dict;⟨L,a.at λ o e=>(hs.2 _ (Ne.symm YS)).trans e,b⟩
  sys:=x.sys
  fr:=λ f' hf=>by
   have nf:f'∈c.its:=by rw [e];exact bL _ hf
   have q:=x.JO nf c.aa0 dZ.2.1;exact ⟨(hs.2 _ (Ne.symm q.1)).trans (x.fr f' nf).1,(x.fr f' nf).2.at λ o e=>(hs.2 _ (Ne.symm q.2)).trans e⟩}
def dN.go {f:fE} {l:List fE} {i':Option Nat} (x:dN c h) (e:c.its=l++[f]) (hs:Heap.SameBut f.I h h') (hi:w5 h' {f with i:=i'}):dN {c with its:=l++[{f with i:=i'}]} h':=by
 have hf:f∈c.its:=by rw [e];simp
 have q:∀b∈c.base,b≠f.I:=λ b hb=>(x.JO hf b hb).2;have nd:=x.apart;unfold ka.all at nd;rw [e,List.flatMap_append] at nd;have PE:=List.nodup_append.mp (List.nodup_append.mp nd).2.1;have ne:∀f'∈l,f'.W≠f.I/\f'.I≠f.I:=λ f' nf=>
  ⟨PE.2.2 f'.W (List.mem_flatMap.mpr ⟨f',nf,by simp⟩) f.I (by simp),PE.2.2 f'.I (List.mem_flatMap.mpr ⟨f',nf,by simp⟩) f.I (by simp)⟩
 have VU:f.W≠f.I:=by have:=PE.2.1;simp at this;exact this
 refine jw (dZ (c:=c)) λ m1 m2 m3 m4=>?_;exact {
  apart:=by show (c.base++(l++[{f with i:=i'}]).flatMap λ f:fE=>[f.W,f.I]).Nodup;rw [List.flatMap_append];exact nd
  fU:=let ⟨vs,n,a,b⟩:=x.fU;⟨vs,n,(hs.2 _ (q _ m1)).trans a,b⟩
  its:=by
   refine aM x.its λ n a=>?_;refine ⟨n,?_⟩;have e2:((l++[{f with i:=i'}]).map λ f:fE=>Value.ref f.W)=c.its.map λ f=>Value.ref f.W:=by rw [e];simp
   show IsL h' c.aa0 ((l++[{f with i:=i'}]).map λ f:fE=>Value.ref f.W).toArray n;rw [e2];exact (hs.2 _ (q _ m2)).trans a
  seen:=jN x.seen λ o e=>(hs.2 _ (q _ m3)).trans e
  dict:=let ⟨L,a,b⟩:=x.dict;⟨L,a.at λ o e=>(hs.2 _ (q _ m4)).trans e,b⟩
  sys:=x.sys
  fr:=λ f' nf=>by
   rcases bR nf with nf|nf
   ·have hm:f'∈c.its:=by rw [e];exact bL _ nf
    exact ⟨(hs.2 _ (ne f' nf).1).trans (x.fr f' hm).1,(x.fr f' hm).2.at λ o e=>(hs.2 _ (ne f' nf).2).trans e⟩
   ·rw [bj nf];exact ⟨(hs.2 _ VU).trans (x.fr f hf).1,hi⟩}
end
variable {c:ka}
def G9 {d:Addr} {L:List (Str×Value)} {k:Str} {t:Tok} {Q:Unit->Shared->Prop} (hD:s.heap.DictOf (abh) d L) (hz:L.length<=sizeLine) (hk:(valueAt L k).isSome=true) (SO:(abh).is k (.str k t)=true)
  (h:∀h',h'.DictOf (abh) d (without L k)->Heap.SameBut d s.heap h'->Q () {s with heap:=h',toks:=s.toks+1}):wpAny (model XX w) A (delItem (.ref d) (.str k t)) Q E s:=by
 unfold delItem;try with_reducible refine XG ?_
 refine Z4 (wpAny_sequenceKey hD.typeIs bH ?_);exact Z4 (wpAny_callSpecial?_slot (name:=Str.ofString "__delitem__") hD.typeIs PySem.F.slot_dict_delitem
  (call_meetsIn PySem.F.slot_dict_delitem hD.typeIs PySem.F.entry_dict_delitem (PySem.F.args_dict_delitem_2 _ _) (meets_dict_delitem_pairs (abh) d SO) ⟨L,hD,hz,hk,λ h' VV hs=>X5 (h h' VV hs)⟩))
noncomputable def w6 (c:ka):YJ:=⟨λ h v=>v= .ref c.YM/\h.SetOf (abh) c.YM (λ k=>decide (k∈c.seen.map Tx.s)) c.seen.length,λ k ⟨e,x⟩=>⟨e,jN x λ o q=>k _ _ q⟩⟩
noncomputable def Eu (c:ka):YJ:=⟨λ h v=>v= .ref c.Yn/\(c.Yn==sysModules)=false/\∃L,h.DictOf (abh) c.Yn L/\L.map (·.1)=c.keys.map Tx.s,λ k ⟨e,s,L,x,q⟩=>⟨e,s,L,x.at λ o q=>k _ _ q,q⟩⟩
def u0 {x:Tx} {l:List Tx}:x.s∈l.map Tx.s<->x∈l:=by
 constructor
 ·intro h;refine aK (abQ h) λ y hy e=>?_;have:y=x:=Tx.lu e;exact this▸hy
 ·exact λ h=>List.mem_map.mpr ⟨x,h,rfl⟩
def o5 {L:List (Str×Value)} {k:Str}:(valueAt L k).isSome=decide (k∈L.map (·.1)):=by
 induction L with
 |nil=>simp [valueAt]
 |cons p L ih=>
  obtain ⟨a,v⟩:=p;unfold valueAt at ih⊢;rw [List.find?_cons];by_cases q:a=k
  ·simp [q]
  ·have q':¬k=a:=λ e=>q e.symm;simp only [q,decide_false,List.map_cons,List.mem_cons,q',false_or] at ih⊢;exact ih
def uu {x:Tx}:fm A (compareOp .In) (is x) (w6 c) (is (decide (x∈c.seen))):=λ S s u v ξ ξ p q=>by refine aM (bz.mp p) λ t c7=>?_;subst c7;refine cO q λ d6 hs=>?_;subst d6;refine wpAny_inSet_of (km x t) abl (jN hs λ o e=>ao _ _ e) ⟨dG _ _,?_⟩;refine is_bool.mpr ?_;congr 1;exact decide_eq_decide.mpr u0
def B9 {x:Tx}:fm A (compareOp .In) (is x) (Eu c) (is (decide (x∈c.keys))):=λ S s u v ξ ξ p q=>by refine aM (bz.mp p) λ t dI=>?_;subst dI;obtain ⟨rfl,jL,L,hd,hk⟩:=q;have lS:s.heap.DictOf (abh) c.Yn L:=hd.at λ o e=>ao _ _ e;refine wpAny_in_of (km x t) jL lS.mapOf ⟨dG _ _,?_⟩;refine is_bool.mpr ?_;rw [o5,hk];congr 1;exact decide_eq_decide.mpr u0
def nW (f:YQ sc ak F aw az aa ρ J S s) (hz:ρ.lookup z=some (lit (.ref a))) (hw:∀g:Heap,dN c g->W.p g (.ref a)) (hj:dN c s.heap):XK sc ((z,W)::ρ) (iI S c.all) aa s.heap:=
 (f.open c.all).word hz (hw _ (hj.gV λ b m o e=>kr m e))
def YQ.PF {D:List Addr} {c':ka} (f:YQ sc ak F aw az aa ρ ((K.and (jr c)).and gS) S s) (hD:∀b∈D,b∈c.all) (hK:∀b∈c.all,b∉K.fp) (h2:∀b∈c.all,b∉gS.fp) (hs:∀b o,b∉D->s.heap.get? b=some o->h'.get? b=some o)
  (hl:∀b∈D,∃o,h'.get? b=some o) (hn:∀b∈N,s.heap.get? b=none) (hN:∀b∈N,∃o,h'.get? b=some o) {tk:Nat} (X:dN c' h') (ha:∀b∈c'.all,b∈c.all\/b∈N):
  YQ sc ak F aw az aa ρ ((K.and (jr c')).and gS) (N++S) {s with heap:=h',toks:=tk}:=by
 have e9:∀b∈D,b∈S:=λ b m=>(f.aar b (bL _ (bC _ (hD b m)))).1;have le:=iZ e9 hs hn;refine f.step (D:=D) (N:=N) (λ b m=>bL _ (bC _ (hD b m))) hs hl hn hN ⟨⟨?_,X⟩,?_⟩ λ b m=>?_
 ·exact K.st le ao ao (λ b m o e=>hs b o (λ q=>hK b (hD b q) m) e) f.jp.1.1
 ·exact gS.st le ao ao (λ b m o e=>hs b o (λ q=>h2 b (hD b q) m) e) f.jp.2
 ·rcases bR m with m|m
  ·rcases bR m with m|m
   ·exact .inl (bL _ (bL _ m))
   ·rcases ha b m with q|q
    ·exact .inl (bL _ (bC _ q))
    ·exact .inr q
  ·exact .inl (bC _ m)
def Ew:builtinKind "iter"=none:=by decide+kernel
def Ca:plainId "iter"=true:=by decide+kernel
def Cb (a:Value):argsOk "iter" ⟨[a],[]⟩:=by unfold argsOk;kernel_rfl
def Cc:entryFor table "iter"=some Builtin.«iter»:=entryFor_of_tree (by kernel_rfl)
def uR {m:Nat} {Q:Value->Shared->Prop} (hl:IsL s.heap b xs m) (hq:Q (.ref s.heap.objs.size) {s with heap:=s.heap.push (j5 b 0)}):wpAny (model XX w) A (call (.builtin "iter") [.ref b]) Q E s:=by refine Calls.call_function_entry Ew Ca Cc (Cb _) ?_;unfold Builtin.«iter»;refine Z4 (m:=someArgs "iter" 1 2 _) (X5 ?_);exact Z4 (wpAny_pyIter_list ⟨_,hl,rfl,_,rfl⟩ (X5 ⟨_,rfl,hq⟩))
def Cd (he:en∈σ.es):fm A getItem (gW σ) (is en.nd.node) (o4 σ en):=λ S s a b ξ f p q=>by refine cO p λ cX X=>?_;subst cX;refine aM (bz.mp q) λ t c7=>?_;subst c7;exact wpAny_getItem_of (knd:=abh) (km en.nd.node t) (X.dict.at λ o e=>ao _ _ e).mapOf (mG X.nn he) ⟨dG _ _,rfl,X⟩
def Ay {i:Expr} (he:en∈σ.es) (ho:Ev A sc ρ o (gW σ)) (hi:Ev A sc ρ i (is en.nd.node)):
  Ev A sc ρ (.Attribute (.Subscript o i sp) "successors" ar) (lit (.ref en.b)):=λ S aa s c=>by
 rw [arm_eval_Attribute];have hb:attributeBase (.Subscript o i sp) "successors" aa (eval (.Subscript o i sp) aa)=eval (.Subscript o i sp) aa:=rfl;rw [hb];have hs:Ev A sc ρ (.Subscript o i sp) (o4 σ en):=cP (aV:=gW σ) (a6:=is en.nd.node) ho hi (Cd he) rJ PySem.F.slot_dict_getitem.lookup;refine Z4 (hs.use c λ u aj k₁ c₁ aZ=>?_);refine cO aZ λ d6 X=>?_;subst d6;have N:=X.info en he;refine cS N.at_ λ t1 t2 ha=>?_;refine Z4 (ig (Z4 (XG ?_)));refine kq (p:=85) (c₁.top.k.keeps ao) (ao _ _ ha) ⟨_,ao _ _ N.rH⟩ abl abl abl Jd rfl rfl ?_;exact Z4 (wpAny_letTemporaryGo (X5 ⟨aL k₁ (dG _ _),rfl⟩))
def Ex {it:Expr} {np:Pos} {Q:Value->Shared->Prop} (he:en∈σ.es) (hi:Ev A sc ρ (.Name "iter" np) (lit (.builtin "iter"))) (ha:Ev A sc ρ aS (lit (.ref en.b))) (fh:∀aa,starEach [aS] aa=(false,eval aS aa)::starEach [] aa)
  (hp:eT [aS]) (X:∀s',Keeps s s'->ck σ s'.heap) (c:XK sc ρ S aa s.heap)
  (hq:∀aj aA,Keeps s aj->aA={aj with heap:=(aj.heap.push (j5 en.b 0)).push (iR aj.heap.objs.size),toks:=aj.toks+1}->Q (.ref (aj.heap.objs.size+1)) aA):
  wpAny (model XX w) A (eval (.Attribute (.Call (.Name "iter" np) [aS] [] be) "__next__" ar) aa) Q E s:=by
 rw [arm_eval_Attribute];have hb:attributeBase (.Call (.Name "iter" np) [aS] [] be) "__next__" aa (eval (.Call (.Name "iter" np) [aS] [] be) aa)=eval (.Call (.Name "iter" np) [aS] [] be) aa:=rfl;rw [hb];refine Z4 ?_;show wpAny _ A (do callWith be (<-eval (.Name "iter" np) aa) [] (backTo be (starEach [aS] aa)) []) _ _ s;refine Z4 (hi.use c λ v aj k₁ c₁ aZ=>?_);rw [show v= .builtin "iter" from aZ];refine eg (hp aa be) (j7 (he:=fh aa) (ha.use c₁ λ u aA k₂ c₂ cG=>wpAny_items_nil ⟨trivial,?_⟩));rw [show u= .ref en.b from cG];have kk:=aL k₁ k₂;refine bu (((X aA kk).info en he).XA) λ vs m hl ξ=>?_;refine uR hl ?_;refine Z4 (ig (Z4 (XG ?_)));obtain ⟨hh,g,d,tk,os⟩:=aA;refine G8 (o:=j5 en.b 0) (tk:=0) (Heap.get?_push_size _ rfl) rfl rfl rfl ?_;refine Z4 (wpAny_letTemporaryGo (X5 ?_));have:=hq ⟨hh,g,d,tk,os⟩ _ kk rfl;rw [Heap.size_push];exact this
def Ce {t:Tx} (f:YQ sc ak F aw az aa ρ ((K.and (jr c)).and gS) S s) (hz:Ev A sc ρ (.Name z YA) (lit (.ref c.YM))) (he:Ev A sc ρ aS (is t)) (hx:t∉c.seen) (hn:c.seen.length<1000)
  (hK:∀b∈c.all,b∉K.fp) (h2:∀b∈c.all,b∉gS.fp) (hp:eT [aS])
  (gP:∀aa:Env,aa.scope.kind= .function->aa.scope.names=sc->swapsWith (.Call (.Attribute (.Name z YA) "add" bE) [aS] [] be) none ar.line aa=pure false)
  (oz:∀aa,∃pl:Sem Bool,eval (.Call (.Attribute (.Name z YA) "add" bE) [aS] [] be) aa=(do
   let ov<-eval (.Name z YA) aa
   standAt bE.atName
   let (f,first)<-holding [ov] (getMethod ov "add" pl)
   callWith be f first (backTo be (starEach [aS] aa)) []))
  (fh:∀aa,starEach [aS] aa=(false,eval aS aa)::starEach [] aa)
  (k:∀s',YQ sc ak F aw az aa ρ ((K.and (jr {c with seen:=c.seen++[t]})).and gS) S s'->wpAny (model XX w) A (execs aD aa) Q E s'):
  wpAny (model XX w) A (execs (.Expr (.Call (.Attribute (.Name z YA) "add" bE) [aS] [] be) ar::aD) aa) Q E s:=by
 refine jW f.cx gP (eG (oz aa) (hz.use f.cx λ v aj k₁ c₁ aZ=>λ pl=>?_));rw [show v= .ref c.YM from aZ];have bN:=f.keep k₁;refine getMethod_set_add (knd:=abh) bN.jp.1.2.seen ?_;refine eg (hp aa be) (j7 (he:=fh aa) (he.use c₁ λ u aA k₂ c₂ cG=>wpAny_items_nil ⟨trivial,?_⟩));refine aM (bz.mp cG) λ tk cX=>?_;subst cX;have bh:=bN.keep k₂;have X:=bh.jp.1.2;have hf:decide (t.s∈c.seen.map Tx.s)=false:=by simpa using λ m=>hx (u0.mp m)
 show wpAny _ A (call (.builtin "set.add") [.ref c.YM,.str t.s tk]) (λ v aj=>(∀(a:Addr),v≠Value.ref a)/\wpAny (model XX w) A (execs aD aa) Q E aj) _ _;refine call_set_add (knd:=abh) (km t tk) abl X.seen (by show c.seen.length+1<4096;w_up) λ h' hs hS=>⟨(λ ξ q=>by cases q),?_⟩;have je:h'.SetOf (abh) c.YM (λ k=>decide (k∈(c.seen++[t]).map Tx.s)) (c.seen++[t]).length:=by
  have e1:(λ k'=>decide (k'∈c.seen.map Tx.s)||decide (k'=t.s))=λ k=>decide (k∈(c.seen++[t]).map Tx.s):=by funext k';rw [List.map_append,Bool.eq_iff_iff];simp
  rw [hf,e1] at hS;have e2:(c.seen++[t]).length=c.seen.length+1:=by simp
  rw [e2];exact hS
 refine gF X.ne λ n1 n2 ZV aa5 YS abq=>?_;have X':dN {c with seen:=c.seen++[t]} h':=X.JP (fU:=c.fU) (keys:=c.keys) dZ.2.2.1 hs (.inl ⟨Ne.symm n2,rfl⟩) (.inr je) (.inl ⟨abq,rfl⟩) (Ne.symm aa5);have hl:∃o,h'.get? c.YM=some o:=by refine rX je λ o ξ ξ ξ e ξ=>?_;exact ⟨o,e⟩
 exact k _ (bh.PF (D:=[c.YM]) (N:=[]) (c':={c with seen:=c.seen++[t]}) (λ b m=>by rw [bj m];exact bL _ dZ.2.2.1) hK h2 (λ b o nb e=>(hs.2 b λ q=>nb (List.mem_singleton.mpr q)).trans e)
  (λ b m=>by rw [bj m];exact hl) (λ b m=>nomatch m) (λ b m=>nomatch m) X' (λ b m=>.inl m))
def Ey {np ipos F5:Pos} (f:YQ sc ak F aw az aa ρ ((K.and (jr c)).and gS) S s) (hz:Ev A sc ρ (.Name z YA) (lit (.ref c.aa0))) (he:en∈σ.es) (hi:Ev A sc ρ (.Name "iter" np) (lit (.builtin "iter"))) (ha:Ev A sc ρ aS (lit (.ref en.b)))
  (fh:∀aa,starEach [aS] aa=(false,eval aS aa)::starEach [] aa) (VW:eT [aS]) (X:ck σ (hide S s.heap))
  (hK:∀b∈c.all,b∉K.fp) (h2:∀b∈c.all,b∉gS.fp) (hn:c.its.length<=1000)
  (gP:∀aa:Env,aa.scope.kind= .function->aa.scope.names=sc->swapsWith (.Call (.Attribute (.Name z YA) "append" bE) [.Attribute (.Call (.Name "iter" np) [aS] [] ipos) "__next__" F5] [] be) none ar.line aa=pure false)
  (oz:∀aa,∃pl:Sem Bool,eval (.Call (.Attribute (.Name z YA) "append" bE) [.Attribute (.Call (.Name "iter" np) [aS] [] ipos) "__next__" F5] [] be) aa=(do
   let ov<-eval (.Name z YA) aa
   standAt bE.atName
   let (f,first)<-holding [ov] (getMethod ov "append" pl)
   callWith be f first (backTo be (starEach [.Attribute (.Call (.Name "iter" np) [aS] [] ipos) "__next__" F5] aa)) []))
  (k:∀s' W I S',(∀b∈S,b∈S')->W∉S->I∉S->YQ sc ak F aw az aa ρ ((K.and (jr {c with its:=c.its++[fE.mk W I en.b (some 0)]})).and gS) S' s'->wpAny (model XX w) A (execs aD aa) Q E s'):
  wpAny (model XX w) A (execs (.Expr (.Call (.Attribute (.Name z YA) "append" bE) [.Attribute (.Call (.Name "iter" np) [aS] [] ipos) "__next__" F5] [] be) ar::aD) aa) Q E s:=by
 have w7:=br;refine jW f.cx gP (eG (oz aa) (hz.use f.cx λ v aj k₁ c₁ aZ=>λ pl=>?_));rw [show v= .ref c.aa0 from aZ];have bN:=f.keep k₁;refine aM bN.jp.1.2.its λ n hl=>?_;refine getMethod_builtin ⟨_,hl,rfl⟩ PySem.F.plainAttrs_list PySem.F.slot_list_append PySem.F.type_list_append (λ a q=>by cases q;exact ⟨_,hl,rfl⟩) ?_;refine eg abl (j7 (he:=by rfl) (Ex (σ:=σ) (it:=aS) he hi ha fh VW (λ s' kk=>X.gV λ b ξ o q=>kle kk _ _ (kle k₁ _ _ (ao _ _ q))) c₁ λ aA aH k₂ m6=>wpAny_items_nil ⟨trivial,?_⟩));have bh:=bN.keep k₂;refine aM bh.jp.1.2.its λ NW vQ=>?_;have ZG:aA.heap.get? aA.heap.objs.size=none:=get_none (Nat.le_refl _);have Y3:aA.heap.get? (aA.heap.objs.size+1)=none:=get_none (Nat.le_succ _);generalize SP:aA.heap.objs.size=I at*;have hh:∀b o,aA.heap.get? b=some o->aH.heap.get? b=some o:=λ b o q=>by rw [m6];exact cN _ (cN _ q)
 have aan:aH.heap.get? I=some (j5 en.b 0):=by rw [m6,<-SP];exact cN _ (Heap.get?_push_size _ rfl)
 have ZO:aH.heap.get? (I+1)=some (iR I):=by rw [m6,<-SP];have:=Heap.get?_push_size (aA.heap.push (j5 en.b 0)) (o:=iR aA.heap.objs.size) rfl;rwa [Heap.size_push] at this
 have PG:=hh _ _ vQ;have hsz:(c.its.map λ f=>Value.ref f.W).toArray.size<=sizeLine:=by simp;w_up
 refine wpAny_list_append_plain (hsz:=hsz) ⟨_,PG⟩ λ h' PH hs=>⟨λ ξ q=>(by cases q),?_⟩;refine aM PH λ m' eF=>?_;have fx:=λ b m=>bh.cx.b4 b (bh.aar b (bL _ (bC _ m))).1;have SQ:I+1∉c.all:=λ m=>by refine aM (fx _ m) λ o e=>?_;rw [Y3] at e;cases e
 have SR:I∉c.all:=λ m=>by refine aM (fx _ m) λ o e=>?_;rw [ZG] at e;cases e
 have PI:c.aa0∈c.all:=bL _ dZ.2.1;have PD:I+1≠I:=λ q=>Nat.succ_ne_self _ q;have SS:h'.get? I=some (j5 en.b 0):=(hs.2 I λ q=>SR (q▸PI)).trans aan;have SU:h'.get? (I+1)=some (iR I):=(hs.2 (I+1) λ q=>SQ (by rw [q];exact PI)).trans ZO;have keep:∀b o,b≠c.aa0->aA.heap.get? b=some o->h'.get? b=some o:=λ b o nb e=>(hs.2 b nb).trans (hh _ _ e);have el:((c.its.map λ f=>Value.ref f.W).toArray.push (Value.ref (I+1)))=((c.its++[fE.mk (I+1) I en.b (some 0)]).map λ f:fE=>Value.ref f.W).toArray:=by simp
 have X':dN {c with its:=c.its++[fE.mk (I+1) I en.b (some 0)]} h':=bh.jp.1.2.push keep SQ SR PD SU SS (n:=m') (el▸eF);have ud:∀b,aA.heap.get? b=none->b∉S:=λ b h m=>by refine aM (bh.cx.b4 b m) λ o e=>?_;rw [h] at e;cases e
 have fin:=bh.PF (D:=[c.aa0]) (N:=[I+1,I]) (c':={c with its:=c.its++[fE.mk (I+1) I en.b (some 0)]}) (h':=h') (tk:=aH.toks) (λ b m=>by rw [bj m];exact PI) hK h2 (λ b o nb e=>keep b o (λ q=>nb (List.mem_singleton.mpr q)) e)
  (λ b m=>by rw [bj m];exact ⟨_,eF⟩) (λ b m=>by
   rcases cF m with rfl|m
   ·exact Y3
   ·rw [bj m];exact ZG) (λ b m=>by
   rcases cF m with rfl|m
   ·exact ⟨_,SU⟩
   ·rw [bj m];exact ⟨_,SS⟩) X' (λ b m=>by
   have m:b∈c.base++(c.its++[fE.mk (I+1) I en.b (some 0)]).flatMap λ f:fE=>[f.W,f.I]:=m;rw [List.flatMap_append,<-List.append_assoc] at m;rcases bR m with m|m
   ·exact .inl m
   ·exact .inr (by simpa using m))
 have e4:({aH with heap:=h'}:Shared)={aA with heap:=h',toks:=aH.toks}:=by rw [m6]
 rw [e4];exact k _ (I+1) I _ (λ b m=>bC _ m) (ud _ Y3) (ud _ ZG) fin
def Cf {L:List (Str×Value)} {k:Str} (h:k∉L.map (·.1)):(stored L k v).map (·.1)=L.map (·.1)++[k]:=by
 unfold stored;rw [if_neg ?_]
 ·simp
 ·intro q;refine aK (List.any_eq_true.mp q) λ kv m e=>?_;exact h (List.mem_map.mpr ⟨kv,m,by simpa using e⟩)
def Az {L:List (Str×Value)} {k:Str}:(without L k).map (·.1)=(L.map (·.1)).filter λ y=>decide (y≠k):=by
 unfold without;induction L with
 |nil=>rfl
 |cons a L ih=>
  rw [List.filter_cons,List.map_cons,List.filter_cons,<-ih];split<;>simp
def YQ.w9 {c':ka} (f:YQ sc ak F aw az aa ρ ((K.and (jr c)).and gS) S s) (hD:D∈c.all) (hK:∀b∈c.all,b∉K.fp) (h2:∀b∈c.all,b∉gS.fp) (hs:Heap.SameBut D s.heap h')
  (hl:∃o,h'.get? D=some o) {tk:Nat} (X:dN c' h') (ha:∀b∈c'.all,b∈c.all):YQ sc ak F aw az aa ρ ((K.and (jr c')).and gS) S {s with heap:=h',toks:=tk}:=
 f.PF (D:=[D]) (N:=[]) (λ b m=>by rw [bj m];exact hD) hK h2 (λ b o nb e=>(hs.2 b λ q=>nb (List.mem_singleton.mpr q)).trans e) (λ b m=>by rw [bj m];exact hl) (λ b m=>nomatch m) (λ b m=>nomatch m) X λ b m=>.inl (ha b m)
def Ez {t:Tx} {j:Int} (f:YQ sc ak F aw az aa ρ ((K.and (jr c)).and gS) S s) (qX:XK sc gy S' aa s.heap) (hv:Ev A sc gy aaB (is j)) (hz:Ev A sc ρ (.Name z YA) (lit (.ref c.Yn))) (hk:Ev A sc ρ ke (is t)) (hx:t∉c.keys) (hn:c.keys.length<=1000)
  (hK:∀b∈c.all,b∉K.fp) (h2:∀b∈c.all,b∉gS.fp)
  (gP:∀aa:Env,aa.scope.kind= .function->aa.scope.names=sc->swapsWith aaB (some (.Subscript (.Name z YA) ke sp)) ar.line aa=pure false)
  (kk:∀s',YQ sc ak F aw az aa ρ ((K.and (jr {c with keys:=c.keys++[t]})).and gS) S s'->wpAny (model XX w) A (execs aD aa) Q E s'):wpAny (model XX w) A (execs (.Assign [.Subscript (.Name z YA) ke sp] aaB ar::aD) aa) Q E s:=by
 have w7:=br;refine YF (wpAny_Assign_Subscript (hs:=gP aa f.cx.kind f.cx.names) (hv.use qX λ v aj k₁ c₁ aZ=>hz.use (f.keep k₁).cx λ d aA k₂ c₂ cG=>hk.use c₂ λ kv aH iq lN k4=>?_));rw [show d= .ref c.Yn from cG];refine aM (bz.mp k4) λ tk c7=>?_;subst c7;have dC:=f.keep (aL (aL k₁ k₂) iq);have X:=dC.jp.1.2;refine aK X.dict λ L hd hL=>?_;have bl:L.length=c.keys.length:=by have:=congrArg List.length hL;simpa using this
 refine wpAny_setItem_pairs (knd:=abh) (k:=t.s) (km t tk) hd (λ h' lS hs=>?_) (by rw [bl];w_up);have PJ:(stored L t.s v).map (·.1)=(c.keys++[t]).map Tx.s:=by rw [Cf (by rw [hL];exact λ m=>hx (u0.mp m)),hL];simp
 refine gF X.ne λ n1 n2 ZV aa5 YS abq=>?_;have X':dN {c with keys:=c.keys++[t]} h':=X.JP (fU:=c.fU) (seen:=c.seen) dZ.2.2.2 hs (.inl ⟨Ne.symm ZV,rfl⟩) (.inl ⟨Ne.symm abq,rfl⟩) (.inr ⟨_,lS,PJ⟩) (Ne.symm YS);exact kk _ (dC.w9 (D:=c.Yn) (bL _ dZ.2.2.2) hK h2 hs (by refine cY lS λ o ξ ξ e ξ=>?_;exact ⟨o,e⟩) X' λ b m=>m)
def EA {t:Tx} (f:YQ sc ak F aw az aa ρ ((K.and (jr c)).and gS) S s) (hz:Ev A sc ρ (.Name z YA) (lit (.ref c.ZN))) (he:Ev A sc ρ aS (is t)) (hn:c.fU.length<=1000)
  (hK:∀b∈c.all,b∉K.fp) (h2:∀b∈c.all,b∉gS.fp) (hp:eT [aS])
  (gP:∀aa:Env,aa.scope.kind= .function->aa.scope.names=sc->swapsWith (.Call (.Attribute (.Name z YA) "append" bE) [aS] [] be) none ar.line aa=pure false)
  (oz:∀aa,∃pl:Sem Bool,eval (.Call (.Attribute (.Name z YA) "append" bE) [aS] [] be) aa=(do
   let ov<-eval (.Name z YA) aa
   standAt bE.atName
   let (f,first)<-holding [ov] (getMethod ov "append" pl)
   callWith be f first (backTo be (starEach [aS] aa)) []))
  (fh:∀aa,starEach [aS] aa=(false,eval aS aa)::starEach [] aa)
  (k:∀s',YQ sc ak F aw az aa ρ ((K.and (jr {c with fU:=c.fU++[t]})).and gS) S s'->wpAny (model XX w) A (execs aD aa) Q E s'):
  wpAny (model XX w) A (execs (.Expr (.Call (.Attribute (.Name z YA) "append" bE) [aS] [] be) ar::aD) aa) Q E s:=by
 have w7:=br;refine jW f.cx gP (eG (oz aa) (hz.use f.cx λ v aj k₁ c₁ aZ=>λ pl=>?_));rw [show v= .ref c.ZN from aZ];have bN:=f.keep k₁;refine bu bN.jp.1.2.fU λ vs n hl ξ=>?_;refine getMethod_builtin ⟨_,hl,rfl⟩ PySem.F.plainAttrs_list PySem.F.slot_list_append PySem.F.type_list_append (λ a q=>by cases q;exact ⟨_,hl,rfl⟩) ?_;refine eg (hp aa be) (j7 (he:=fh aa) (he.use c₁ λ u aA k₂ c₂ cG=>wpAny_items_nil ⟨trivial,?_⟩));refine aM (bz.mp cG) λ tk eK=>?_;subst eK;have bh:=bN.keep k₂;have X:=bh.jp.1.2;refine bu X.fU λ vs n hl ht=>?_;have bl:vs.size=c.fU.length:=by
  have:=(eH (g:=aA.heap)).mp ht|>.length
  simpa using this
 show wpAny _ A (call (.builtin "list.append") [.ref c.ZN,.str t.s tk]) (λ v aj=>(∀(a:Addr),v≠Value.ref a)/\wpAny (model XX w) A (execs aD aa) Q E aj) _ _;refine wpAny_list_append_plain (hsz:=by rw [bl];w_up) ⟨_,hl⟩ λ h' PH hs=>⟨(λ ξ q=>by cases q),?_⟩;refine aM PH λ m' eF=>?_;have VX:ia (c.fU++[t]) (vs.push (.str t.s tk)).toList:=by rw [Array.toList_push];have h1:=(eH (g:=aA.heap)).mp ht;refine (eH (g:=aA.heap)).mpr ?_;rw [List.map_append];exact h1.append ⟨bz.mpr ⟨tk,rfl⟩,trivial⟩
 refine gF X.ne λ n1 n2 ZV aa5 YS abq=>?_;have X':dN {c with fU:=c.fU++[t]} h':=X.JP (seen:=c.seen) (keys:=c.keys) dZ.1 hs (.inr ⟨_,_,eF,VX⟩) (.inl ⟨n2,rfl⟩) (.inl ⟨ZV,rfl⟩) n1;exact k _ (bh.w9 (D:=c.ZN) (tk:=aA.toks) (bL _ dZ.1) hK h2 hs ⟨_,eF⟩ X' λ b m=>m)
def YQ.Cg {Q:Unit->Shared->Prop} {o:Obj} (f:YQ sc ak F aw az aa ρ (K.and (bK os)) S s) (ho:s.heap.get? aa.locals=some o) (hA:A.frames=some (aa::aT)) (hf:aa.frame=some aa.locals) (abF:iQ aT os) (hx:MadeX s.heap h' ea X)
  (k:∀s',kA ((aa.locals,o)::os) (aa::aT) s ea X [] s'->Q () s'):wpAny M A (noteFrame (.ref ea) aa) (λ ξ aA=>wpAny M A (setFlight (.ref ea) none) Q E aA) E {s with heap:=h'}:=by
 have wY:∃es n,o.data= .dict es n:=by refine aK f.nU λ o' q z=>?_;rw [ho] at q;cases q;exact z
 have lD:=abF.push (aa:=aa) f.cx.kind hf wY;have sl:=f.frames ho f.jp.2;generalize SA:(aa.locals,o)::os=qj at*;obtain ⟨t,vs,he,h0,h1,PA,ht⟩:=hx.there;have hk:=hx.keeps;have fr:s.heap.FunFrames (hide (dh qj) s.heap) (aa::aT):=lD.frames sl λ p m=>wX (sN m);have fv:h'.FunFrames (hide (dh qj) s.heap) (aa::aT):=fr.of_keeps λ b o q ξ=>cV o (hk _ _ q) rfl;have fh:(hide (dh qj) s.heap).StaysIn h':=λ b z q=>hk _ _ (ao _ _ q);unfold noteFrame;rw [hf];refine Z4 (wpAny_field (s:={s with heap:=h'}) (x:=.none) he rfl h1 ?_);rw [if_neg bH];refine wpAny_entryW (base:=hide (dh qj) s.heap) (s:={s with heap:=h'}) (a0:=.ref t) hA fv hf he fh (m0 hx.new) rfl (Array.getElem?_eq_some_iff.mp h1).1 h0 λ B5 hN=>?_;refine jw hN λ k1 k2 k3 aaI=>?_;refine wpAny_landsW (s:={s with heap:=B5}) (base:=hide (dh qj) s.heap) (l:=aa::aT) (cls:=.type X) (a0:=.ref t) (L:=aa.locals) ⟨k1,m0 hx.new,k2,k3⟩ λ k6 wZ qk=>k _ ⟨t,⟨k6,s.toks,rfl⟩,wZ,?_,m0 PA,eB.up (eB.up (eB.up sl lD.data (.of_keeps hk)) lD.data aaI) lD.data qk⟩;exact Heap.TupAt.of_slots (Heap.TupAt.of_slots (h:=h') ⟨_,_,ht,rfl,rfl⟩ aaI) qk
def JQ {W:Addr} {Q:Value->Shared->Prop} (hW:s.heap.get? W=some (iR I)) (h:wpAny (model XX w) A (call (.ref W) [] []) Q E s):wpAny (model XX w) A (callWith ar (.ref W) [] [] []) Q E s:=by unfold callWith;refine Z4 (XG (kg rfl (X5 (Z4 (ig ?_)))));refine Z4 (m:=keeperOf (.ref W)) ?_;unfold keeperOf;refine Z4 (wpAny_load hW ?_);show wpAny _ _ (if (Value.type "method-wrapper"!=Value.type "method")=true then _ else _) _ _ _;rw [if_pos bH];refine X5 ?_;rw [if_pos abl];exact Z4 (Zh h (λ r aA hr=>Z4 (XG (wpAny_point (X5 hr)))) dp)
def zf {vs:Array Value} {u:Value} {Q:Value->Shared->Prop} (hz:Ev A sc ρ (.Name z YA) (lit (.ref D))) (cx:XK sc ρ S aa s.heap) (hl:∀s',Keeps s s'->∃n,IsL s'.heap D (vs.push u) n) (hn:vs.size<=1000)
  (oz:∀aa,∃pl:Sem Bool,eval (.Call (.Attribute (.Name z YA) "pop" bE) [] [] be) aa=(do
   let ov<-eval (.Name z YA) aa
   standAt bE.atName
   let (f,first)<-holding [ov] (getMethod ov "pop" pl)
   callWith be f first (backTo be (starEach [] aa)) []))
  (k:∀aj h' n,Keeps s aj->Heap.SameBut D aj.heap h'->IsL h' D vs n->Q u {aj with heap:=h'}):wpAny (model XX w) A (eval (.Call (.Attribute (.Name z YA) "pop" bE) [] [] be) aa) Q E s:=by
 have w7:=br;refine eG (oz aa) (hz.use cx λ v aj k₁ c₁ aZ=>λ pl=>?_);rw [show v= .ref D from aZ];refine aM (hl aj k₁) λ n hl=>?_;refine getMethod_builtin ⟨_,hl,rfl⟩ PySem.F.plainAttrs_list PySem.F.slot_list_pop PySem.F.type_list_pop (λ a q=>by cases q;exact cV _ hl rfl) ?_;have hsz:(vs.push u).size=vs.size+1:=Array.size_push _;refine _root_.PySem.P.pop_list hl (y:=u) (by rw [hsz,Nat.add_sub_cancel];simp) ?_ (by w_up);have e1:(vs.push u).eraseIdxIfInBounds ((vs.push u).size - 1)=vs:=by unfold Array.eraseIdxIfInBounds;rw [dif_pos (by rw [hsz,Nat.add_sub_cancel];exact Nat.lt_succ_self _)];apply Array.ext';rw [Array.toList_eraseIdx,hsz,Nat.add_sub_cancel,Array.toList_push,List.eraseIdx_append_of_length_le (by simp)];simp
 obtain ⟨m',eF⟩:∃m',IsL (aj.heap.update D (Obj.mapSeq λ xs=>xs.eraseIdxIfInBounds ((vs.push u).size - 1))) D ((vs.push u).eraseIdxIfInBounds ((vs.push u).size - 1)) m':=⟨_,Heap.get?_update_self (Obj.mapSeq λ xs=>xs.eraseIdxIfInBounds ((vs.push u).size - 1)) hl rfl⟩;rw [e1] at eF;exact k aj _ m' k₁ (Heap.SameBut.update ..) eF
noncomputable def F6 (m:Tx):YJ:=⟨λ h v=>∃ea t tk,v= .ref ea/\h.ExcAt ea "ValueError" (.ref t)/\h.TupAt t [.str m.s tk],
 λ k x=>bw x λ ea t tk e y x=>⟨ea,t,tk,e,bu y λ o vs a b=>d8 o vs (k _ _ a) b,x.keeps k⟩⟩
def Ch {m:Tx} (hu:A.units+2<cLine):fJ A (.type "str") [F6 m] (is m):=λ S s vs T fr p=>by obtain ⟨v,cX,ea,t,tk,qm,Ci,x⟩:=p.one;subst cX;subst qm;refine bu Ci λ o ws a b=>?_;exact PySem.P.str_of_exc_one PySem.F.excStr_ValueError hu ⟨o,ws,ao _ _ a,b⟩ (x.keeps ao) ⟨cB _,bz.mpr ⟨_,rfl⟩⟩
def eS.word {o:Obj} {m:Tx} {tk:Tok} (f:YQ sc ak F aw az aa ρ (K.and (bK os)) S s) (abF:iQ (aa::aT) ((aa.locals,o)::os)) (x:eS ((aa.locals,o)::os) (aa::aT) s ea "ValueError" [.str m.s tk] fl s'):(F6 m).p (hide S s'.heap) (.ref ea):=by
 refine d5 x λ t c7 xd ZU Zr sl=>?_;refine cS c7 λ h DM JR=>?_;subst JR;obtain ⟨f1,f2,abJ,oe,vs,T,aa1,ts,he,sq,D9,h1,r⟩:=xd;have out:∀b z,(hide (dh ((aa.locals,o)::os)) s.heap).get? b=none->h.get? b=some z->(∀es n,z.data≠ .dict es n)->b∉S:=λ b z hn hz hd m=>by
  refine aM (f.cx.b4 b m) λ z' PK=>?_;rw [bI] at hn;split at hn
  ·rename_i q;refine aK (F2 q) λ p hp dI=>?_;subst dI;refine cS (abF.dict p hp) λ es n d=>?_;refine aM (sl p hp) λ GX e'=>?_;rw [hz] at e';injection e' with e';subst e';exact hd es n d
  ·rw [PK] at hn;cases hn
 refine bU ZU λ ot n ht hc hd=>?_;refine jm ea t tk rfl ⟨oe,vs,?_,sq.1,D9,sq.2⟩ ⟨ot,n,?_,hc,hd⟩
 ·show (hide S h).get? ea=_;rw [bI,if_neg (out ea oe f2 he λ es n q=>by rw [D9] at q;cases q)];exact he
 ·show (hide S h).get? t=_;rw [bI,if_neg (out t ot Zr ht λ es n q=>by rw [hd] at q;cases q)];exact ht
def eS.typeIs (x:eS os aT s ea X aE fl s'):s'.TypeIs (.ref ea) X:=by refine d5 x λ t eL sd ZU Zr sl=>?_;refine cS eL λ h DM JS=>?_;subst JS;obtain ⟨f1,f2,abJ,oe,vs,T,aa1,ts,he,sq,D9,h1,r⟩:=sd;exact cV oe he sq.1
def Cj {R:Addr} {x:Tx} (hR:σ.R=some R) (abx:cy 2 A) (hA:A.frames=some aT) (abF:iQ aT os) (hp:lh x) (bl:x.cs.length<=1000)
  (hc:∀e,jk σ x=some e->0<=e.nd.np\/e.nd.np=-2):wu A (.ref 334) [gI σ,is x] (bK os) (bK os) (is (dY σ x)):=λ S s vs T fr hS hJ p=>by
 refine kI (ρ:=[("sorter",gI σ),("page",is x)]) (J:=bK os) (F:=dh os) (o:=Ni) T fr abx p abl rfl aaT ⟨333,Nh,_,_,rfl,by rfl,rfl,rfl⟩ ["sorter","page"]
  (pX (λ a b=>by rfl)) abl abd abd hJ (λ b m=>⟨hS b m,m⟩) λ A' Q' aa mD aA aY i0 hQ ξ ξ fv f=>?_
 have i0:A'.frames=some (aa::aT):=by rw [i0,hA];rfl
 have f:=f.fX (aa_:=Y8.and (bK os)) ⟨trivial,f.jp⟩ (λ b m=>m);have SV:∀b∈Y8.fp,b∉dh os:=λ b m=>nomatch m;refine YF (wpAny_Try_except ?_);refine jW f.cx aR (eG ⟨_,rfl⟩ ((af (A:=A') (P:=gI σ) abl abd abd abd).use f.cx λ v aH iq lN k4=>λ pl=>?_));refine cO k4 λ gG F7=>?_;subst gG;refine oH (σ:=σ) (f:=162) (lN.top.k.keeps ao) (F7.gV λ b ξ o q=>ao _ _ q) abl abl bH ?_;refine eg abl (j7 (he:=by rfl) ((af (A:=A') (P:=is x) abl abd abd abd).use lN λ u bS nP lO oY=>wpAny_items_nil ⟨⟨_,_,ao _ _ (lO.top.k 162 _ abl),rfl⟩,?_⟩));have fB:=f.keep (aL iq nP);refine aK fB.nU λ o ho wY=>?_;have lD:=abF.push (aa:=aa) fB.cx.kind fv wY;have VY:(gI σ).p (hide mD bS.heap) (.ref σ.D):=(gI σ).mono (aJ (kle nP)) ⟨rfl,F7⟩;refine Zh (uQ hR aY i0 lD hp bl hc fB.cx.top fB.cx.b4 (λ b m=>?_) (fB.frames ho fB.jp.2) ⟨VY,oY,trivial⟩) (λ ξ ξ q=>q.elim) λ e bY q=>?_
 ·rcases cF m with rfl|m
  ·exact fB.Zt.loc
  ·exact (fB.aar b (bC _ m)).1
 refine bu q λ ea tk gi fl=>?_;subst gi;refine fl.land i0 fv lD.data λ dK fl=>?_;have sO:=fl.fs fB SV ho;refine wpAny_handleBy_builtin_as (X:="ValueError") (T:="ValueError") (b:=true) (isSubtype_of_subB abd) (isSubtype_of_subB abd) (isSubtype_of_subB abd) ((aQ (A:=A'.mark _) (n:="ValueError") (v:=.type "ValueError") abd abd abl abd abl).use sO.cx λ u dT mF wI sD=>iJ sD ((fl.keep mF).typeIs) ?_);rw [if_pos rfl];refine kA.again lD.data (fl.keep mF) λ mS fl=>?_;have zg:=fl.fs fB SV ho;refine zg.store (z:="error") (P:=F6 (dY σ x)) abd (fl.word fB lD) λ gT f=>?_;refine dO f (P:=is (dY σ x)) (ba (f:=.type "str") (YN:=[F6 (dY σ x)]) aQ (au af aB) aR trivial (Ch (by have:=aY.units;show A'.units+2<cLine;w_up))) λ v j3 f pv=>?_;refine aM f.Zt.ns λ m hm=>?_;refine wpAny_nameGoes_keeps (by rw [f.cx.kindOf];decide+kernel) hm (by rw [f.cx.kind];rfl) λ h' u hn hs=>?_;have hL:∀b o,b∉dh os->s.heap.get? b=some o->h'.get? b=some o:=λ b o nb e=>by refine (hs.2 b λ q=>?_).trans (f.aaH.keep b o nb e);rw [q,f.loc] at e;cases e
 refine cS f.aaH.same λ dg mq i9=>?_;refine hQ _ _ ⟨⟨⟨h',_,by rw [i9]⟩,hL,λ b o e=>?_⟩,λ p m=>?_,mE pv⟩
 ·refine aM (f.aaH.live b o e) λ o' e'=>?_;exact ⟨o',(hs.2 b λ q=>by rw [q,f.loc] at e;cases e).trans e'⟩
 ·refine aM (f.jp.2 p m) λ sl e'=>?_;exact ⟨sl,(hs.2 p.1 (f.aar p.1 (bC _ (sN m))).2.1).trans e'⟩
noncomputable instance:Nonempty fE:=⟨⟨(0:Addr),(0:Addr),(0:Addr),none⟩⟩
noncomputable instance:Nonempty ka:=⟨⟨(0:Addr),(0:Addr),(0:Addr),(0:Addr),[],[],[],[]⟩⟩
noncomputable instance:Nonempty Ent:=⟨⟨⟨⟨[]⟩,0,[]⟩,(0:Addr),(0:Addr),(0:Addr)⟩⟩
abbrev rO:ly:=(gE (nc 8 8)).names
abbrev rP:List Str:=ownOf (gE (nc 8 8))
noncomputable def VZ (k:Nat) (p1 p2:Pos):Expr:=.UnaryOp .USub (.Constant (.int 1) k p1) p2
def xe (hz:YN.length<=1000):fm A getItem (cH (YN++[P])) (is (-1:Int)) P:=λ S s u v ξ ξ p q=>by
 refine bw p λ a vs n cX ha pa=>?_;subst cX;refine aM (bD.mp q) λ t c7=>?_;subst c7;have e1:=pa.length;rw [Array.length_toList,gD] at e1;refine aK (pa.get (i:=YN.length) (P:=P) (by simp)) λ v hv pv=>?_;have e2:vs.size=YN.length+1:=by simpa using e1
 refine wpAny_getItem_list_neg ⟨_,ao _ _ ha,rfl,_,rfl⟩ (by w_up) (by w_up) (by w_up) (x:=v) ?_ ⟨cB _,pv⟩;have e3:(-1+((YN.length+1:Nat):Int)).toNat=YN.length:=by w_up
 rw [e2,e3];simpa using hv
def Ha (f:YQ sc ak F aw az aa ρ J S s) (hz:ρ.lookup z=some (lit (.ref c.aa0))) (hj:dN c s.heap):XK sc ((z,cH (c.its.map λ f=>lit (.ref f.W)))::ρ) (iI S c.all) aa s.heap:=
 nW f hz (λ g X=>by
  refine aM X.its λ n e=>?_;refine jm c.aa0 _ n rfl e ?_;have a8:∀l:List fE,AllP g (l.map λ f=>lit (.ref f.W)) (l.map λ f=>Value.ref f.W):=by
   intro l;induction l with
   |nil=>trivial
   |cons a l ih=>exact ⟨rfl,ih⟩
  simpa using a8 c.its) hj
def AA {ts:List Tx} {t:Tx} (h:t∉ts):((ts++[t]).map Tx.s).filter (λ y=>decide (y≠t.s))=ts.map Tx.s:=by
 rw [List.map_append,List.filter_append];have h1:(ts.map Tx.s).filter (λ y=>decide (y≠t.s))=ts.map Tx.s:=List.filter_eq_self.mpr λ y hy=>by
  refine aK (abQ hy) λ z hz ff=>?_;subst ff;have a8:z.s≠t.s:=λ q=>by have e:z=t:=Tx.lu q;exact h (e▸hz)
  simpa using a8
 rw [h1];simp
def sP (ρ:eV) (aa:Env) (A:Around) (F aw:List Addr) (az:Shared) (K:XW) (c:ka) (σ:bQ) (en:Ent) (os:List (Addr×Obj)) (aT:List Env) (ts:List Tx) (t:Tx) (fs:List fE) (fr:fE) (Q:Flow->Shared->Prop):Prop:=∀{S:List Addr} {s:Shared} {i:Nat} {np p1 p2 p3 p4 YL aaW ZY Zd aaz Ck Cm yj LY LZ yk yl uS EB L0 L1:Pos} {k:Nat} (f:YQ rO rP F aw az aa ρ ((K.and (jr c)).and (bK os)) S s) (hh:A.handled=none) (hA:A.frames=some (aa::aT)) (hf:aa.frame=some aa.locals) (abF:iQ aT os) (hK:∀b∈c.all,b∉K.fp) (h2:∀b∈c.all,b∉dh os) (AB:∀b∈K.fp,b∉dh os) (r1:ρ.lookup ("itstack":Str)=some (lit (.ref c.aa0))) (abD:ρ.lookup ("stack":Str)=some (lit (.ref c.ZN))) (ZP:ρ.lookup ("node2stacki":Str)=some (lit (.ref c.Yn))) (e1:c.fU=ts++[t]) (e2:c.keys=ts++[t]) (e3:c.its=fs++[fr]) (e4:fr.i=some i) (e5:fr.b=en.b) (he:en∈σ.es) (X:ck σ (hide S s.heap)) (JT:t∉ts) (hz:fs.length<=900) (PK:ts.length<=900) (v1:∀aa,∃pl:Sem Bool,eval (.Call (.Attribute (.Name "stack" Ck) "pop" Cm) [] [] yj) aa=(do
   let ov<-eval (.Name "stack" Ck) aa
   standAt Cm.atName
   let (f,first)<-holding [ov] (getMethod ov "pop" pl)
   callWith yj f first (backTo yj (starEach [] aa)) [])) (v2:∀aa,∃pl:Sem Bool,eval (.Call (.Attribute (.Name "itstack" yk) "pop" yl) [] [] uS) aa=(do
   let ov<-eval (.Name "itstack" yk) aa
   standAt yl.atName
   let (f,first)<-holding [ov] (getMethod ov "pop" pl)
   callWith uS f first (backTo uS (starEach [] aa)) [])) (YT:swapsWith (.Call (.Attribute (.Name "itstack" yk) "pop" yl) [] [] uS) none EB.line aa=pure false) (v4:swapsWith (.Call (.Subscript (.Name "itstack" p1) (.UnaryOp .USub (.Constant (.int 1) k p2) p3) p4) [] [] YL) (some (.Name "node" np)) aaW.line aa=pure false) (abe:∀(hi:i<en.nd.succ.length) s',YQ rO rP F aw az aa (("node",is en.nd.succ[i])::ρ) ((K.and (jr {c with its:=fs++[{fr with i:=some (i+1)}]})).and (bK os)) S s'->Q .brk s') (aaL:en.nd.succ.length<=i->∀s',YQ rO rP F aw az aa ρ ((K.and (jr {c with fU:=ts,keys:=ts,its:=fs})).and (bK os)) S s'->Q .next s'),wpAny (model XX w) A (execs [.Try [.Assign [.Name "node" np] (.Call (.Subscript (.Name "itstack" p1) (.UnaryOp .USub (.Constant (.int 1) k p2) p3) p4) [] [] YL) aaW,.Break ZY] [.ExceptHandler (some (.Name "StopIteration" Zd)) none [.Delete [.Subscript (.Name "node2stacki" aaz) (.Call (.Attribute (.Name "stack" Ck) "pop" Cm) [] [] yj) LY] LZ,.Expr (.Call (.Attribute (.Name "itstack" yk) "pop" yl) [] [] uS) EB] L0] [] [] L1] aa) Q dj s
namespace x_turn_v
def aau:=ev (U (U (U (U (U (U (U (U (U (U (U (U (U (U (U (U sP))))))))))))))))
def EC:=aau.1.1.1.1.1.1.1.1.1.1.1.1.1.1.1.1
def d7:=aau.1.1.1.1.1.1.1.1.1.1.1.1.1.1.1.2
def abN:=aau.1.1.1.1.1.1.1.1.1.1.1.1.1.1.2
def aaV:=aau.1.1.1.1.1.1.1.1.1.1.1.1.1.2
def lE:=aau.1.1.1.1.1.1.1.1.1.1.1.1.2
def lF:=aau.1.1.1.1.1.1.1.1.1.1.1.2
def ZT:=aau.1.1.1.1.1.1.1.1.1.1.2
def Z9:=aau.1.1.1.1.1.1.1.1.1.2
def bT:=aau.1.1.1.1.1.1.1.1.2
def ED:=aau.1.1.1.1.1.1.1.2
def j9:=aau.1.1.1.1.1.1.2
def j4:=aau.1.1.1.1.1.2
def mJ:=aau.1.1.1.1.2
def tz:=aau.1.1.1.2
def oM:=aau.1.1.2
def b4:=aau.1.2
def XD:=aau.2
def Zk:sP EC d7 abN aaV lE lF ZT Z9 bT ED j9 j4 mJ tz oM b4 XD:=by
 intro S s i np p1 p2 p3 p4 YL aaW ZY Zd aaz Ck Cm yj LY LZ yk yl uS EB L0 L1 k f hh hA hf abF hK h2 AB r1 abD ZP e1 e2 e3 e4 e5 he X JT hz PK v1 v2 YT v4 abe aaL;have w7:=br;have fv:b4∈Z9.its:=by rw [e3];simp
 refine YF (wpAny_Try_except ?_);refine YF (wpAny_Assign_Name (hs:=v4) ?_);show wpAny _ abN (do callWith YL (<-eval (.Subscript (.Name "itstack" p1) (.UnaryOp .USub (.Constant (.int 1) k p2) p3) p4) d7) [] (backTo YL (starEach [] d7)) []) _ _ s;refine Z4 ((cP (A:=abN) (aV:=cH (Z9.its.map λ f=>lit (.ref f.W))) (a6:=is (-1:Int)) (P:=lit (.ref b4.W)) af (qC bX) (by rw [e3,List.map_append];exact xe (by simpa using (by w_up:oM.length<=1000))) yD PySem.F.slot_list_getitem.lookup).use (Ha (z:="itstack") f r1 f.jp.1.2) λ v aj k₁ c₁ aZ=>?_);rw [show v= .ref b4.W from aZ];have bN:=f.keep k₁;have Cn:ck bT aj.heap:=X.gV λ b ξ o q=>kle k₁ _ _ (ao _ _ q);refine cO (bN.jp.1.2.fr b4 fv) λ ZO aan=>?_;unfold w5 at aan;rw [e4] at aan;dsimp only at aan;rw [e5] at aan;refine bu ((Cn.info ED he).XA) λ vs m hl ht=>?_;have bl:vs.size=ED.nd.succ.length:=by
  have:=(eH (g:=aj.heap)).mp ht|>.length
  simpa using this
 have SW:b4.I∈Z9.all:=(ka.Ax fv).2;refine JQ ZO ?_;by_cases hi:i<ED.nd.succ.length
 ·have nO:i<vs.size:=by w_up
  refine Et ZO aan hl nO λ h' g' hs=>?_;have X':dN {Z9 with its:=oM++[{b4 with i:=some (i+1)}]} h':=bN.jp.1.2.go e3 hs (i':=some (i+1)) (by show h'.get? b4.I=some (j5 b4.b (i+1));rw [e5];exact g');have bh:=bN.w9 (D:=b4.I) (tk:=aj.toks) SW hK h2 hs ⟨_,g'⟩ X' λ b mm=>by have mm:b∈Z9.base++(oM++[{b4 with i:=some (i+1)}]).flatMap λ f:fE=>[f.W,f.I]:=mm;rw [List.flatMap_append] at mm;show b∈Z9.base++Z9.its.flatMap λ f:fE=>[f.W,f.I];rw [e3,List.flatMap_append];exact mm
  have pv:(is ED.nd.succ[i]).p (hide S h') vs[i]:=by
   have h1:=(eH (g:=hide S h')).mp ht;refine aK (h1.get (i:=i) (P:=is ED.nd.succ[i]) (by simp [hi])) λ v hv pv=>?_;have:vs[i]=v:=by
    have e:vs.toList[i]? =some vs[i]:=by simp [nO]
    rw [e] at hv;exact Option.some.inj hv
   rw [this];exact pv
  exact bh.store (z:="node") (P:=is ED.nd.succ[i]) abd pv λ aH dC=>Io (abe hi aH dC)
 ·have GK:vs.size<=i:=by w_up
  refine w4 hh ZO aan hl GK λ h' rz ea g' hs hx=>?_;have X':dN {Z9 with its:=oM++[{b4 with i:=none}]} h':=bN.jp.1.2.go e3 hs (i':=none) ⟨i,g'⟩;have bh:=bN.w9 (D:=b4.I) (tk:=aj.toks) SW hK h2 hs ⟨_,g'⟩ X' λ b mm=>by have mm:b∈Z9.base++(oM++[{b4 with i:=none}]).flatMap λ f:fE=>[f.W,f.I]:=mm;rw [List.flatMap_append] at mm;show b∈Z9.base++Z9.its.flatMap λ f:fE=>[f.W,f.I];rw [e3,List.flatMap_append];exact mm
  refine aK bh.nU λ o ho wY=>?_;have lD:=abF.push (aa:=d7) bh.cx.kind hf wY;have GQ:∀b∈ka.all {Z9 with its:=oM++[{b4 with i:=none}]},b∈Z9.all:=λ b mm=>by have mm:b∈Z9.base++(oM++[{b4 with i:=none}]).flatMap λ f:fE=>[f.W,f.I]:=mm;rw [List.flatMap_append] at mm;show b∈Z9.base++Z9.its.flatMap λ f:fE=>[f.W,f.I];rw [e3,List.flatMap_append];exact mm
  have L2:∀b∈(ZT.and (jr {Z9 with its:=oM++[{b4 with i:=none}]})).fp,b∉dh j9:=λ b mm=>by
   rcases bR mm with mm|mm
   ·exact AB b mm
   ·exact h2 b (GQ b mm)
  refine bh.Cg ho hA hf abF hx λ aH fl=>?_;have dC:=fl.fs bh L2 ho;refine wpAny_handleBy_builtin (X:="StopIteration") (T:="StopIteration") (b:=true) (isSubtype_of_subB abd) (isSubtype_of_subB abd) (isSubtype_of_subB abd) ((aQ (A:=abN.mark _) (n:="StopIteration") (v:=.type "StopIteration") abd abd abl abd abl).use dC.cx λ u bS nP lO oY=>iJ oY (eS.typeIs (fl.keep nP)) ?_);rw [if_pos rfl];refine kA.again lD.data (fl.keep nP) λ bY fl=>?_;have F8:=fl.fs bh L2 ho;generalize n8:({Z9 with its:=oM++[{b4 with i:=none}]}:ka)=c' at*;have JU:∀b∈c'.all,b∉ZT.fp:=λ b mm=>hK b (GQ b mm);have nG:∀b∈c'.all,b∉dh j9:=λ b mm=>h2 b (GQ b mm);have a1:c'.fU=mJ++[tz]:=by rw [<-n8];exact e1
  have a2:c'.keys=mJ++[tz]:=by rw [<-n8];exact e2
  have a3:c'.its=oM++[{b4 with i:=none}]:=by rw [<-n8]
  have a4:c'.ZN=Z9.ZN/\c'.aa0=Z9.aa0/\c'.YM=Z9.YM/\c'.Yn=Z9.Yn/\c'.seen=Z9.seen:=by rw [<-n8];exact Fc rfl rfl rfl rfl rfl
  have r1:EC.lookup ("itstack":Str)=some (lit (.ref c'.aa0)):=by rw [a4.2.1];exact r1
  have abD:EC.lookup ("stack":Str)=some (lit (.ref c'.ZN)):=by rw [a4.1];exact abD
  have ZP:EC.lookup ("node2stacki":Str)=some (lit (.ref c'.Yn)):=by rw [a4.2.2.2.1];exact ZP
  refine YF (wpAny_Delete (wpAny_deleteEach_cons (delete_Subscript ((af (A:=abN.mark _) (P:=lit (.ref c'.Yn)) ZP abd abd abd).use F8.cx λ d dK fz pY oZ=>?_))));rw [show d= .ref c'.Yn from oZ];have sO:=F8.keep fz;refine bu sO.jp.1.2.fU λ ws SX PL JV=>?_;rw [a1] at JV;obtain ⟨Xz,tk,rfl,SY⟩:∃(Xz:Array Value) (tk:Tok),ws=Xz.push (.str tz.s tk)/\ia mJ Xz.toList:=by
   have h1:=(eH (g:=dK.heap)).mp JV;rw [List.map_append] at h1;refine aK (h1.get (i:=mJ.length) (P:=is tz) (by simp)) λ u hu pu=>?_;have hsz:=h1.length;have t7:ws.size=mJ.length+1:=by simpa using hsz
   refine aM (bz.mp pu) λ tk gM=>?_;subst gM;refine d8 ws.pop tk ?_ ((eH (g:=dK.heap)).mpr ?_)
   ·apply Array.ext';rw [Array.toList_push,Array.toList_pop];have fg:ws.toList≠[]:=by intro q;rw [q] at hsz;simp at hsz
    have PM:ws.toList.getLast fg= .str tz.s tk:=by
     rw [List.getLast_eq_getElem];have:ws.toList[mJ.length]? =some (ws.toList[ws.toList.length - 1]'(by simp;w_up)):=by rw [List.getElem?_eq_getElem (by simp;w_up)];congr 1;congr 1;simp;w_up
     rw [hu] at this;exact (Option.some.inj this).symm
    rw [<-PM,List.dropLast_concat_getLast]
   ·have:=h1.take mJ.length;rw [List.take_left' (by simp)] at this;rw [Array.toList_pop,List.dropLast_eq_take];have e:ws.toList.length - 1=mJ.length:=by simp;w_up
    rw [e];exact this
  refine zf (D:=c'.ZN) (vs:=Xz) (u:=.str tz.s tk) (af (A:=abN.mark _) (P:=lit (.ref c'.ZN)) abD abd abd abd) sO.cx (λ s' kk=>⟨SX,kle kk _ _ PL⟩) (by
   have:=(eH (g:=dK.heap)).mp SY|>.length
   have:Xz.size=mJ.length:=by simpa using this
   w_up) v1 λ dT FU W5 mF JW JX=>?_
  have sQ:=sO.keep mF;have FW:=sQ.jp.1.2;refine gF FW.ne λ n1 n2 ZV aa5 YS abq=>?_;have PN:dN {c' with fU:=mJ} FU:=FW.JP (seen:=c'.seen) (keys:=c'.keys) dZ.1 JW (.inr ⟨_,_,JX,SY⟩) (.inl ⟨n2,rfl⟩) (.inl ⟨ZV,rfl⟩) n1;have zg:=sQ.w9 (D:=c'.ZN) (tk:=dT.toks) (bL _ dZ.1) JU nG JW ⟨_,JX⟩ PN λ b mm=>mm;refine aK zg.jp.1.2.dict λ L hd hL=>?_;have hL:L.map (·.1)=(mJ++[tz]).map Tx.s:=by rw [hL];show c'.keys.map Tx.s=_;rw [a2]
  have JY:L.length=mJ.length+1:=by have:=congrArg List.length hL;simpa using this
  refine G9 hd (by w_up) (by rw [o5,hL];simp) (km tz tk) λ ug JZ rF=>?_;have V0:(without L tz.s).map (·.1)=mJ.map Tx.s:=by rw [Az,hL];exact AA JT
  refine gF zg.jp.1.2.ne λ n1 n2 ZV aa5 YS abq=>?_;have FY:dN {c' with fU:=mJ,keys:=mJ} ug:=zg.jp.1.2.JP (fU:=mJ) (seen:=c'.seen) dZ.2.2.2 rF (.inl ⟨Ne.symm ZV,rfl⟩) (.inl ⟨Ne.symm abq,rfl⟩) (.inr ⟨_,JZ,V0⟩) (Ne.symm YS);have F9:=zg.w9 (D:=c'.Yn) (tk:=dT.toks+1) (bL _ dZ.2.2.2) JU nG rF (by refine cY JZ λ o ξ ξ e ξ=>?_;exact ⟨o,e⟩) FY λ b mm=>mm;refine wpAny_deleteEach_nil ?_;refine YF ?_;rw [exec_Expr d7 _ EB (iz F9.cx) YT];refine Z4 (ig (Z4 ?_));refine aM F9.jp.1.2.its λ J0 AD=>?_;have AD:IsL ug c'.aa0 (c'.its.map λ f=>Value.ref f.W).toArray J0:=AD;rw [a3,List.map_append] at AD;have L3:IsL ug c'.aa0 ((oM.map λ f=>Value.ref f.W).toArray.push (Value.ref b4.W)) J0:=by
   have e:((oM.map λ f=>Value.ref f.W).toArray.push (Value.ref b4.W))=(oM.map (λ f=>Value.ref f.W)++[{b4 with i:=none}].map λ f:fE=>Value.ref f.W).toArray:=by simp
   rw [e];exact AD
  refine zf (D:=c'.aa0) (vs:=(oM.map λ f=>Value.ref f.W).toArray) (u:=.ref b4.W) (af (A:=abN.mark _) (P:=lit (.ref c'.aa0)) r1 abd abd abd) F9.cx (λ s' kk=>⟨J0,kle kk _ _ L3⟩) (by simp;w_up) v2 λ j3 J1 SZ J2 zh zj=>?_;have Co:=F9.keep J2;have J3:dN {c' with fU:=mJ,keys:=mJ,its:=oM} J1:=Co.jp.1.2.pop a3 zh zj;have Cp:=Co.w9 (D:=c'.aa0) (tk:=j3.toks) (bL _ dZ.2.1) JU nG zh ⟨_,zj⟩ J3 λ b mm=>by have mm:b∈c'.base++oM.flatMap λ f:fE=>[f.W,f.I]:=mm;show b∈c'.base++c'.its.flatMap λ f:fE=>[f.W,f.I];rw [a3,List.flatMap_append,<-List.append_assoc];exact bL _ mm
  refine wpAny_dropValue ?_;refine wpAny_execs_nil ?_;refine wpAny_execs_nil ?_;refine aaL (by w_up) _ ?_;have ec:({c' with fU:=mJ,keys:=mJ,its:=oM}:ka)={Z9 with fU:=mJ,keys:=mJ,its:=oM}:=by rw [<-n8]
  rw [ec] at Cp;exact Cp
end x_turn_v
def L4 {ts:List Tx} {t:Tx} {fs:List fE} {fr:fE}:sP ρ aa A F aw az K c σ en os aT ts t fs fr Q:=s7 (U (U (U (U (U (U (U (U (U (U (U (U (U (U (U (U sP)))))))))))))))) x_turn_v.Zk ((((((((((((((((ρ,aa),A),F),aw),az),K),c),σ),en),os),aT),ts),t),fs),fr),Q)
structure abk where
 en:Ent
 i:Nat
 W:Addr
 I:Addr
structure AE where
 ZN:Addr
 aa0:Addr
 YM:Addr
 Yn:Addr
noncomputable def gJ (a:AE) (fl:List abk) (seen:List Tx):ka:=⟨a.ZN,a.aa0,a.YM,a.Yn,fl.map λ f=>f.en.nd.node,fl.map λ f=>⟨f.W,f.I,f.en.b,some f.i⟩,seen,fl.map λ f=>f.en.nd.node⟩
noncomputable def Cq (es:List Ent) (seen:List Tx):Nat:=((es.filter λ e=>decide (e.nd.node∉seen)).map λ e=>e.nd.succ.length+2).sum
noncomputable def xf (fl:List abk):Nat:=(fl.map λ f=>f.en.nd.succ.length - f.i+1).sum
def uT (es:List Ent) (fl:List abk) (seen:List Tx):Nat:=Cq es seen+xf fl
def qK (fl lW:List abk):xf (fl++lW)=xf fl+xf lW:=by simp [xf]
def tW (f:abk):xf [f]=f.en.nd.succ.length - f.i+1:=by simp [xf]
def Hb:∀{es:List Ent} {seen:List Tx} {en:Ent},(es.map λ e=>e.nd.node).Nodup->en∈es->en.nd.node∉seen->Cq es (seen++[en.nd.node])+(en.nd.succ.length+2)=Cq es seen:=by
 intro es;induction es with
 |nil=>intros;contradiction
 |cons e es ih=>
  intro seen en hn he hx;rw [List.map_cons,List.nodup_cons] at hn;unfold Cq;rw [List.filter_cons,List.filter_cons];rcases cF he with rfl|he
  ·have h0:es.filter (λ e=>decide (e.nd.node∉seen++[en.nd.node]))=es.filter λ e=>decide (e.nd.node∉seen):=by refine List.filter_congr λ e he=>?_;have:e.nd.node≠en.nd.node:=λ q=>hn.1 (List.mem_map.mpr ⟨e,he,q⟩);simp [this]
   rw [h0];have h1:decide (en.nd.node∉seen++[en.nd.node])=false:=decide_eq_false λ q=>q (bC _ di);have h2:decide (en.nd.node∉seen)=true:=decide_eq_true hx;rw [h1,h2];simp;w_up
  ·have ih:=ih hn.2 he hx;unfold Cq at ih;have fg:e.nd.node≠en.nd.node:=λ q=>hn.1 (List.mem_map.mpr ⟨en,he,q.symm⟩);have h1:decide (e.nd.node∉seen++[en.nd.node])=decide (e.nd.node∉seen):=by simp [fg]
   rw [h1];split
   ·simp only [List.map_cons,List.sum_cons] at ih⊢;w_up
   ·exact ih
structure Good (σ:bQ) (Yb:Tx->Nat) (fl:List abk) (seen:List Tx):Prop where
 en:∀f∈fl,f.en∈σ.es/\f.i<=f.en.nd.succ.length
 uv:(fl.map λ f=>Yb f.en.nd.node).Pairwise (·<·)
 sub:∀f∈fl,f.en.nd.node∈seen
 has:∀t∈seen,∃e∈σ.es,e.nd.node=t
 nd:seen.Nodup
def Good.nodup {fl:List abk} (g:Good σ Yb fl seen):(fl.map λ f=>f.en.nd.node).Nodup:=by have:=g.uv;rw [List.pairwise_map] at this;rw [List.Nodup,List.pairwise_map];exact this.imp λ {a b} h q=>by rw [q] at h;exact Nat.lt_irrefl _ h
def len_sub:∀{l m:List Tx},l.Nodup->(∀x∈l,x∈m)->l.length<=m.length:=by
 intro l;induction l with
 |nil=>intro _ _ _;exact Nat.zero_le _
 |cons a l ih=>
  intro m hn hs;rw [List.nodup_cons] at hn;have ha:=hs a di;have ih:=ih hn.2 λ x hx=>(List.mem_erase_of_ne (show x≠a from λ q=>hn.1 (by rw [<-q];exact hx))).mpr (hs x (Ym _ hx));rw [List.length_erase_of_mem ha] at ih;have:0<m.length:=List.length_pos_of_mem ha;rw [List.length_cons];w_up
def Good.len {fl:List abk} (g:Good σ Yb fl seen):fl.length<=σ.es.length/\seen.length<=σ.es.length:=by
 have h1:seen.length<=(σ.es.map λ e=>e.nd.node).length:=len_sub g.nd λ t m=>by refine aK (g.has t m) λ e he q=>?_;exact List.mem_map.mpr ⟨e,he,q⟩
 have h2:(fl.map λ f=>f.en.nd.node).length<=seen.length:=len_sub g.nodup λ t m=>by refine aK (abQ m) λ f hf q=>?_;exact q▸g.sub f hf
 rw [lm] at h1 h2;exact ⟨Nat.le_trans h2 h1,h1⟩
def Good.less {fl:List abk} {f:abk} (g:Good σ Yb (fl++[f]) seen):Good σ Yb fl seen where
 en:=λ f' h=>g.en f' (bL _ h)
 uv:=by have:=g.uv;rw [List.map_append] at this;exact (List.pairwise_append.mp this).1
 sub:=λ f' h=>g.sub f' (bL _ h)
 has:=g.has
 nd:=g.nd
def Good.next {fl:List abk} {f:abk} (g:Good σ Yb (fl++[f]) seen) (h:f.i<f.en.nd.succ.length):Good σ Yb (fl++[{f with i:=f.i+1}]) seen where
 en:=λ f' h'=>by
  rcases bR h' with h'|h'
  ·exact g.en f' (bL _ h')
  ·rw [bj h'];exact ⟨(g.en f (by simp)).1,h⟩
 uv:=by have:=g.uv;rw [List.map_append] at this⊢;exact this
 sub:=λ f' h'=>by
  rcases bR h' with h'|h'
  ·exact g.sub f' (bL _ h')
  ·rw [bj h'];exact g.sub f (by simp)
 has:=g.has
 nd:=g.nd
def Below (Yb:Tx->Nat) (fl:List abk) (x:Tx):Prop:=∀f∈fl,Yb f.en.nd.node<Yb x
def Good.push {fl:List abk} {W:Addr} (g:Good σ Yb fl seen) (he:en∈σ.es) (b:Below Yb fl en.nd.node) (hs:en.nd.node∉seen):Good σ Yb (fl++[⟨en,0,W,I⟩]) (seen++[en.nd.node]) where
 en:=λ f' h'=>by
  rcases bR h' with h'|h'
  ·exact g.en f' h'
  ·rw [bj h'];exact ⟨he,Nat.zero_le _⟩
 uv:=by
  rw [List.map_append,List.pairwise_append];refine ⟨g.uv,by simp,λ a ha b' lB=>?_⟩;refine aK (abQ ha) λ f hf d6=>?_;subst d6;have lB:b'=Yb en.nd.node:=by simpa using lB
  rw [lB];exact b f hf
 sub:=λ f' h'=>by
  rcases bR h' with h'|h'
  ·exact bL _ (g.sub f' h')
  ·rw [bj h'];simp
 has:=λ t ht=>by
  rcases bR ht with ht|ht
  ·exact g.has t ht
  ·exact ⟨en,he,(bj ht).symm⟩
 nd:=by rw [List.nodup_append];exact ⟨g.nd,by simp,λ a ha b hb q=>hs (by rw [bj hb] at q;exact q▸ha)⟩
def sR (σ:bQ) (a:AE) (x:Tx):eV:=[("node",is x),("node2stacki",lit (.ref a.Yn)),("seen",lit (.ref a.YM)),("itstack",lit (.ref a.aa0)),("stack",lit (.ref a.ZN)),("n2i",gW σ),("self",gI σ)]
def Hc {n:Str} (h:List.lookup n ((z,P)::ρ)=some R):List.lookup n ((z,P)::(z,P')::ρ)=some R:=by
 by_cases q:n=z
 ·subst q;rw [r5] at h⊢;exact h
 ·rw [vm q] at h⊢;rw [vm q];exact h
def qn (a:AE) (fl:List abk):List Addr:=(gJ a fl []).all
def qL {a:AE} {fl:List abk} {f:abk}:qn a (fl++[f])=qn a fl++[f.W,f.I]:=by show (gJ a (fl++[f]) []).base++_=((gJ a fl []).base++_)++_;rw [List.append_assoc];show [a.ZN,a.aa0,a.YM,a.Yn]++((fl++[f]).map λ f=>fE.mk f.W f.I f.en.b (some f.i)).flatMap (λ f=>[f.W,f.I])=[a.ZN,a.aa0,a.YM,a.Yn]++((fl.map λ f=>fE.mk f.W f.I f.en.b (some f.i)).flatMap (λ f=>[f.W,f.I])++[f.W,f.I]);rw [List.map_append,List.flatMap_append];simp
section
variable {a:AE}
abbrev ZR (K:XW) (a:AE) (os:List (Addr×Obj)) (fl:List abk) (seen:List Tx):XW:=(K.and (jr (gJ a fl seen))).and (bK os)
def zk (f:YQ sc ak F aw az aa ρ J S s) (hz:ρ.lookup z=some (lit (.ref c.ZN))) (hj:dN c s.heap):XK sc ((z,is c.fU)::ρ) (iI S c.all) aa s.heap:=
 nW f hz (λ g X=>by refine bu X.fU λ vs n e t=>?_;exact is_list.mpr ⟨c.ZN,vs,n,rfl,e,eH.mp t⟩) hj
def Cr {fl:List abk} {x:Tx} {np abG p1 p2 p3 p4 YL aaW ZY Zd aaz Ck Cm yj LY LZ yk yl uS EB L0 L1 pb aaj:Pos} {k:Nat} {Q:Flow->Shared->Prop}
  (f:YQ rO rP F aw az aa (sR σ a x) (ZR K a os fl seen) S s) (hh:A.handled=none) (hA:A.frames=some (aa::aT)) (hf:aa.frame=some aa.locals) (abF:iQ aT os)
  (ap:∀b∈qn a fl,b∉K.fp/\b∉dh os) (AB:∀b∈K.fp,b∉dh os) (g:Good σ Yb fl seen)
  (xg:∀e∈σ.es,∀y∈e.nd.succ,Yb e.nd.node<Yb y/\∃e'∈σ.es,e'.nd.node=y) (J4:σ.es.length<=800)
  (v0:∀aa,isTrue (.Name "stack" abG) aa (eval (.Name "stack" abG) aa)=(do let v<-eval (.Name "stack" abG) aa;standAt (Expr.Name "stack" abG).pos;holding [v] (truthy v)))
  (v1:∀aa,∃pl:Sem Bool,eval (.Call (.Attribute (.Name "stack" Ck) "pop" Cm) [] [] yj) aa=(do
   let ov<-eval (.Name "stack" Ck) aa
   standAt Cm.atName
   let (f,first)<-holding [ov] (getMethod ov "pop" pl)
   callWith yj f first (backTo yj (starEach [] aa)) []))
  (v2:∀aa,∃pl:Sem Bool,eval (.Call (.Attribute (.Name "itstack" yk) "pop" yl) [] [] uS) aa=(do
   let ov<-eval (.Name "itstack" yk) aa
   standAt yl.atName
   let (f,first)<-holding [ov] (getMethod ov "pop" pl)
   callWith uS f first (backTo uS (starEach [] aa)) []))
  (YT:swapsWith (.Call (.Attribute (.Name "itstack" yk) "pop" yl) [] [] uS) none EB.line aa=pure false)
  (v4:swapsWith (.Call (.Subscript (.Name "itstack" p1) (.UnaryOp .USub (.Constant (.int 1) k p2) p3) p4) [] [] YL) (some (.Name "node" np)) aaW.line aa=pure false)
  (abe:∀lW y s',Good σ Yb lW seen->Below Yb lW y->(∃e∈σ.es,e.nd.node=y)->uT σ.es lW seen<uT σ.es fl seen->(∀b∈qn a lW,b∈qn a fl)->YQ rO rP F aw az aa (sR σ a y) (ZR K a os lW seen) S s'->Q .next s')
  (aaL:∀s',YQ rO rP F aw az aa (sR σ a x) (ZR K a os [] seen) S s'->Q .brk s'):
  wpAny (model XX w) A (execs [.While (.Name "stack" abG) [.Try [.Assign [.Name "node" np] (.Call (.Subscript (.Name "itstack" p1) (.UnaryOp .USub (.Constant (.int 1) k p2) p3) p4) [] [] YL) aaW,.Break ZY] [.ExceptHandler (some (.Name "StopIteration" Zd)) none [.Delete [.Subscript (.Name "node2stacki" aaz) (.Call (.Attribute (.Name "stack" Ck) "pop" Cm) [] [] yj) LY] LZ,.Expr (.Call (.Attribute (.Name "itstack" yk) "pop" yl) [] [] uS) EB] L0] [] [] L1] [.Break pb] aaj] aa) Q dj s:=by
 have w7:=br;refine YF (wpAny_While ?_);let I:Nat->Shared->Prop:=λ n s'=>∃lW,n=lW.length/\Good σ Yb lW seen/\uT σ.es lW seen<=uT σ.es fl seen/\(∀b∈qn a lW,b∈qn a fl)/\YQ rO rP F aw az aa (sR σ a x) (ZR K a os lW seen) S s';refine codeAny_whileLoop I (λ n s' hI=>?_) fl.length ⟨fl,rfl,g,Nat.le_refl _,λ b m=>m,f⟩;refine d5 hI λ lW c7 g' Ga gz f'=>?_;subst c7;have gl:=g'.len;refine (cM (A:=A) (P:=is (gJ a lW seen).fU) (b:=!(gJ a lW seen).fU.isEmpty) af (HX (by show (lW.map _).length<=_;rw [lm];w_up)) v0).use (zk (c:=gJ a lW seen) (z:="stack") f' abl f'.jp.1.2) λ aj k₁ c₁=>?_;have bN:=f'.keep k₁;rcases List.eq_nil_or_concat lW with rfl|⟨ZL,ft,S0⟩
 ·rw [if_neg (by simp [gJ])];exact YF (wpAny_Break (aaL aj bN))
 ·rw [List.concat_eq_append] at S0;subst S0;have fg:(!(gJ a (ZL++[ft]) seen).fU.isEmpty)=true:=by show (!((ZL++[ft]).map _).isEmpty)=true;simp
  rw [fg,if_pos rfl];have Cn:ck σ (hide S aj.heap):=bN.cx.uN (z:="self") abl abd;have jB:=g'.en ft (by simp);have gp:=g'.nodup;rw [List.map_append,List.nodup_append] at gp;have bl:ZL.length+1<=800:=by have:=gl.1;rw [gD] at this;simp at this;w_up
  have Cs:∀b∈(gJ a (ZL++[ft]) seen).all,b∉K.fp/\b∉dh os:=λ b m=>ap b (gz b m);refine Zh (E:=dj) (Q:=λ f aH=>match f with| .next| .cont=>∃m,m<(ZL++[ft]).length/\I m aH| .brk=>wpAny (model XX w) A (execs [] aa) Q dj aH| .ret v=>Q (.ret v) aH) ?_ (λ fl bY h=>by cases fl<;>exact h) eY;refine L4 (Q:=λ f aH=>match f with| .next| .cont=>∃m,m<(ZL++[ft]).length/\I m aH| .brk=>wpAny (model XX w) A (execs [] aa) Q dj aH| .ret v=>Q (.ret v) aH) (c:=gJ a (ZL++[ft]) seen) (ts:=ZL.map λ f=>f.en.nd.node) (t:=ft.en.nd.node) (fs:=ZL.map λ f=>fE.mk f.W f.I f.en.b (some f.i)) (fr:=fE.mk ft.W ft.I ft.en.b (some ft.i)) (i:=ft.i) (en:=ft.en) (σ:=σ) bN hh hA hf abF (λ b m=>(Cs b m).1) (λ b m=>(Cs b m).2) AB abl abl abl
   (by show (ZL++[ft]).map _=_;rw [List.map_append];rfl) (by show (ZL++[ft]).map _=_;rw [List.map_append];rfl) (by show (ZL++[ft]).map _=_;rw [List.map_append];rfl) rfl rfl jB.1 Cn
   (λ m=>gp.2.2 _ m _ (by simp) rfl) (by rw [lm];w_up) (by rw [lm];w_up) v1 v2 YT v4 (λ hi aA bh=>?_) (λ GK aA bh=>?_)
  ·refine s6 (xg ft.en jB.1 _ (List.getElem_mem hi)) λ r1 e' nQ hy=>?_;refine wpAny_execs_nil (abe (ZL++[{ft with i:=ft.i+1}]) (ft.en.nd.succ[ft.i]) aA (g'.next hi) (λ f hf=>?_) ⟨e',nQ,hy⟩ ?_ (λ b m=>gz b ?_) ?_)
   ·rcases bR hf with hf|hf
    ·have hr:=g'.uv;rw [List.map_append,List.pairwise_append] at hr;exact Nat.lt_trans (hr.2.2 (Yb f.en.nd.node) (List.mem_map.mpr ⟨f,hf,rfl⟩) (Yb ft.en.nd.node) (by simp)) r1
    ·rw [bj hf];exact r1
   ·refine Nat.lt_of_lt_of_le ?_ Ga;unfold uT;rw [qK,qK,tW,tW];show _+(_+(ft.en.nd.succ.length - (ft.i+1)+1))<_;w_up
   ·rw [qL] at m⊢;exact m
   ·have e1:({(gJ a (ZL++[ft]) seen) with its:=(ZL.map λ f=>fE.mk f.W f.I f.en.b (some f.i))++[{(fE.mk ft.W ft.I ft.en.b (some ft.i)) with i:=some (ft.i+1)}]}:ka)=gJ a (ZL++[{ft with i:=ft.i+1}]) seen:=by unfold gJ;simp
    rw [e1] at bh;exact bh.ek λ n P h=>Hc h
  ·refine ⟨ZL.length,by simp,ZL,rfl,g'.less,?_,λ b m=>gz b (by rw [qL];exact bL _ m),bh⟩;refine Nat.le_trans ?_ Ga;unfold uT;rw [qK];w_up
end
noncomputable abbrev V1 (s:Stmt):List Stmt:=m9 s
abbrev S1:Stmt:=FA (m9 (nc 8 8)) 5
abbrev V2:Stmt:=FA (V1 S1) 1
section
variable {a:AE}
def J5 {x:Tx}
  (f:YQ rO rP F aw az aa (sR σ a x) (ZR K a os [] seen) S s) (abx:cy n A) (hA:A.frames=some (aa::aT)) (hf:aa.frame=some aa.locals) (abF:iQ aT os)
  (ap:∀b∈qn a [],b∉K.fp/\b∉dh os) (AB:∀b∈K.fp,b∉dh os) (g:Good σ Yb [] seen) (hx:∃e∈σ.es,e.nd.node=x) (xX:(σ.es.map λ e=>e.nd.node).Nodup)
  (xg:∀e∈σ.es,∀y∈e.nd.succ,Yb e.nd.node<Yb y/\∃e'∈σ.es,e'.nd.node=y) (J4:σ.es.length<=800)
  (q:∀AF y S' s',(∀b∈S,b∈S')->Good σ Yb [] AF->YQ rO rP F aw az aa (sR σ a y) (ZR K a os [] AF) S' s'->Q .next s'):
  wpAny (model XX w) A (execs [V2] aa) Q dj s:=by
 have w7:=br;refine YF (wpAny_While ?_);let I:Nat->Shared->Prop:=λ n s'=>∃fl seen y S',n=uT σ.es fl seen/\Good σ Yb fl seen/\Below Yb fl y/\(∃e∈σ.es,e.nd.node=y)/\(∀b∈qn a fl,b∉K.fp/\b∉dh os)/\(∀b∈S,b∈S')/\YQ rO rP F aw az aa (sR σ a y) (ZR K a os fl seen) S' s';refine codeAny_whileLoop I (λ n s' hI=>?_) (uT σ.es [] seen) ⟨[],seen,x,S,rfl,g,(λ ξ h=>(nomatch h)),hx,ap,(λ b m=>m),f⟩;obtain ⟨fl,seen,y,S',cX,g',aa4,qm,Cs,lA,f'⟩:=hI;subst cX;refine aK qm λ ey L5 Pe=>?_;have gl:=g'.len;refine (cM (A:=A) (P:=is true) (b:=true) u9 gk aR).use f'.cx λ aj k₁ c₁=>?_;have bN:=f'.keep k₁;rw [if_pos rfl];refine Zh (E:=dj) (Q:=λ f aH=>match f with| .next| .cont=>∃m,m<uT σ.es fl seen/\I m aH| .brk=>wpAny (model XX w) A (execs [] aa) Q dj aH| .ret v=>Q (.ret v) aH) ?_ (λ fl bY h=>by cases fl<;>exact h) eY;refine nk bN (nW (c:=gJ a fl seen) (z:="seen") (W:=w6 (gJ a fl seen)) bN abl (λ g X=>⟨rfl,X.seen⟩) bN.jp.1.2) (b:=decide (y∈seen)) (bg (aV:=is y) (a6:=w6 (gJ a fl seen)) af af uu abl) (λ hb aA bh=>?_) (λ hb aA bh=>?_)
 ·have V3:decide (y∈(gJ a fl seen).keys)=false:=by simp only [decide_eq_false_iff_not];intro m;refine aK (abQ m) λ f hf e=>?_;exact Nat.lt_irrefl _ (e▸aa4 f hf)
  refine nk bh (nW (c:=gJ a fl seen) (z:="node2stacki") (W:=Eu (gJ a fl seen)) bh abl (λ g X=>⟨rfl,X.sys,X.dict⟩) bh.jp.1.2) (b:=false) (by rw [<-V3];exact bg (aV:=is y) (a6:=Eu (gJ a fl seen)) af af B9 abl) nD (λ ξ aH dC=>?_);refine bf (bf ?_);exact Cr dC abx.handled hA hf abF Cs AB g' xg J4 aR (λ ξ=>⟨_,rfl⟩) (λ ξ=>⟨_,rfl⟩) abl abl
   (λ lW y' bS J6 S2 xh PO L6 fB=>⟨_,PO,lW,seen,y',S',rfl,J6,S2,xh,λ b m=>Cs b (L6 b m),lA,fB⟩)
   (λ bS fB=>wpAny_execs_nil (q seen y S' bS lA ⟨λ ξ h=>(nomatch h),List.Pairwise.nil,λ ξ h=>(nomatch h),g'.has,g'.nd⟩ fB))
 ·have nj:y∉seen:=by simpa using hb
  subst Pe;have LP:∀b∈(gJ a fl seen).all,b∉K.fp:=λ b m=>(Cs b m).1;have S3:∀b∈(gJ a fl seen).all,b∉(bK os).fp:=λ b m=>(Cs b m).2;refine Ce (c:=gJ a fl seen) (t:=ey.nd.node) bh af af nj (by show seen.length<1000;w_up) LP S3 aR aR (λ ξ=>⟨_,rfl⟩) aR λ aH dC=>?_;have F7:ck σ (hide S' aH.heap):=dC.cx.uN (z:="self") abl abd;refine Ey (c:=gJ a fl (seen++[ey.nd.node])) (σ:=σ) (en:=ey) dC af L5 aQ (Ay L5 af af) aR aR F7 LP S3 (by show (fl.map _).length<=_;rw [lm];w_up) aR (λ ξ=>⟨_,rfl⟩) λ bS W I zb xj Y3 ZG fB=>?_;have He:∀b∈qn a (fl++[⟨ey,0,W,I⟩]),b∉K.fp/\b∉dh os:=λ b m=>by
   rw [qL] at m;rcases bR m with m|m
   ·exact Cs b m
   ·have hb:b∉S':=by
     rcases cF m with rfl|m
     ·exact Y3
     ·rw [bj m];exact ZG
    exact ⟨λ q=>hb (dC.aar b (bL _ (bL _ q))).1,λ q=>hb (dC.aar b (bC _ q)).1⟩
  have iP:∀(sk ks:List Tx),ka.all {(gJ a fl (seen++[ey.nd.node])) with its:=(gJ a fl (seen++[ey.nd.node])).its++[fE.mk W I ey.b (some 0)],fU:=sk,keys:=ks}=qn a (fl++[⟨ey,0,W,I⟩]):=λ sk ks=>by rw [qL];show [a.ZN,a.aa0,a.YM,a.Yn]++((fl.map λ f=>fE.mk f.W f.I f.en.b (some f.i))++[fE.mk W I ey.b (some 0)]).flatMap (λ f=>[f.W,f.I])=([a.ZN,a.aa0,a.YM,a.Yn]++(fl.map λ f=>fE.mk f.W f.I f.en.b (some f.i)).flatMap (λ f=>[f.W,f.I]))++[W,I];rw [List.flatMap_append];simp
  have aat:ey.nd.node∉(gJ a fl (seen++[ey.nd.node])).keys:=λ m=>by refine aK (abQ m) λ f hf e=>?_;exact Nat.lt_irrefl _ (e▸aa4 f hf)
  refine Ez (c:={(gJ a fl (seen++[ey.nd.node])) with its:=(gJ a fl (seen++[ey.nd.node])).its++[fE.mk W I ey.b (some 0)]}) (t:=ey.nd.node) (j:=(((gJ a fl seen).fU.length:Nat):Int)) fB (zk (z:="stack") fB abl fB.jp.1.2) (ba (f:=.builtin "len") (YN:=[is (gJ a fl seen).fU]) aQ (au af aB) aR trivial (dM (by show (fl.map _).length<=_;rw [lm];w_up))) af af aat (by show (fl.map _).length<=_;rw [lm];w_up)
   (λ b m=>(He b (iP _ _▸m)).1) (λ b m=>(He b (iP _ _▸m)).2) aR λ bY F8=>?_
  refine EA (t:=ey.nd.node) F8 af af (by show (fl.map _).length<=_;rw [lm];w_up) (λ b m=>(He b (iP _ _▸m)).1) (λ b m=>(He b (iP _ _▸m)).2) aR aR (λ ξ=>⟨_,rfl⟩) aR λ dK sO=>?_;have ec:({ZN:=a.ZN,aa0:=a.aa0,YM:=a.YM,Yn:=a.Yn,fU:=(fl.map λ f=>f.en.nd.node)++[ey.nd.node],its:=(fl.map λ f=>fE.mk f.W f.I f.en.b (some f.i))++[fE.mk W I ey.b (some 0)],seen:=seen++[ey.nd.node],keys:=(fl.map λ f=>f.en.nd.node)++[ey.nd.node]}:ka)=gJ a (fl++[⟨ey,0,W,I⟩]) (seen++[ey.nd.node]):=by unfold gJ;simp
  have sO:YQ rO rP F aw az aa (sR σ a ey.nd.node) (ZR K a os (fl++[⟨ey,0,W,I⟩]) (seen++[ey.nd.node])) zb dK:=by unfold ZR;rw [<-ec];exact sO
  refine bf ?_;have aa':=g'.push (W:=W) (I:=I) L5 aa4 nj;have Ga:uT σ.es (fl++[⟨ey,0,W,I⟩]) (seen++[ey.nd.node])<uT σ.es fl seen:=by unfold uT;have:=Hb xX L5 nj;rw [qK,tW];show _+(_+(ey.nd.succ.length - 0+1))<_;w_up
  exact Cr sO abx.handled hA hf abF He AB aa' xg J4 aR (λ ξ=>⟨_,rfl⟩) (λ ξ=>⟨_,rfl⟩) abl abl
   (λ lW y' dT J7 S4 Gb PQ L7 sQ=>⟨_,Nat.lt_trans PQ Ga,lW,_,y',zb,rfl,J7,S4,Gb,λ b m=>He b (L7 b m),λ b m=>xj b (lA b m),sQ⟩)
   (λ dT sQ=>wpAny_execs_nil (q _ _ zb dT (λ b m=>xj b (lA b m)) ⟨λ ξ h=>(nomatch h),List.Pairwise.nil,λ ξ h=>(nomatch h),aa'.has,aa'.nd⟩ sQ))
end
noncomputable def NX (d:Addr):XW:=⟨[d],λ ξ h=>h.SetOf (abh) d (λ ξ=>false) 0,λ ξ ξ ξ k x=>jN x λ o e=>k d di o e⟩
section
variable {a:AE}
def Hf {np:Pos} (f:YQ sc ak F aw az aa ρ J S s) (hb:Ev A sc ρ (.Name "set" np) (lit (.type "set"))) (hx:cw ak sc z=true) (hs:∀aa:Env,aa.scope.kind= .function->aa.scope.names=sc->swapsWith (.Call (.Name "set" np) [] [] cp) (some (.Name z YA)) ar.line aa=pure false)
  (k:∀D s',D∉S->YQ sc ak F aw az aa ((z,lit (.ref D))::ρ) ((NX D).and J) (D::S) s'->wpAny (model XX w) A (execs aD aa) Q E s'):wpAny (model XX w) A (execs (.Assign [.Name z YA] (.Call (.Name "set" np) [] [] cp) ar::aD) aa) Q E s:=by
 refine YF (wpAny_Assign_Name (hs:=hs aa f.cx.kind f.cx.names) ?_);show wpAny _ A (do callWith cp (<-eval (.Name "set" np) aa) [] (backTo cp (starEach [] aa)) []) _ _ s;refine Z4 (hb.use f.cx λ v aj k₁ c₁ aZ=>?_);rw [show v= .type "set" from aZ];have f:=f.keep k₁;refine eg abl (wpAny_items_nil ⟨trivial,?_⟩);refine call_set_0 λ led=>?_;have hn:aj.heap.get? aj.heap.objs.size=none:=get_none (Nat.le_refl _);have iy:(aj.heap.push {cls:=.type "set",dict:=none,data:=.set #[] 0 (.fresh 0 0 led)}).get? aj.heap.objs.size=some {cls:=.type "set",dict:=none,data:=.set #[] 0 (.fresh 0 0 led)}:=Heap.get?_push_size _ rfl;have f':=f.lay (s':={aj with heap:=aj.heap.push {cls:=.type "set",dict:=none,data:=.set #[] 0 (.fresh 0 0 led)}}) (D:=aj.heap.objs.size) (K:=NX aj.heap.objs.size) ⟨_,_,rfl,λ ξ ξ e=>cN _ e⟩ hn ⟨_,iy⟩ (λ b m=>bj m)
  ⟨_,#[],0,_,iy,⟨rfl,rfl,rfl⟩,rfl,λ e he=>by simp at he,λ k=>by simp,by decide,by rfl,rfl⟩
 exact f'.store hx (P:=lit (.ref aj.heap.objs.size)) rfl λ aA bh=>k _ aA (eO f.cx.b4 (Nat.le_refl _)) bh
def EE {Z':Pos} (f:YQ sc ak F aw az aa ρ J S s) (hx:cw ak sc z=true) (hs:∀aa:Env,aa.scope.kind= .function->aa.scope.names=sc->swapsWith (.Dict [] [] Z') (some (.Name z YA)) ar.line aa=pure false)
  (k:∀D s',D∉S->YQ sc ak F aw az aa ((z,lit (.ref D))::ρ) ((fW D []).and J) (D::S) s'->wpAny (model XX w) A (execs aD aa) Q E s'):wpAny (model XX w) A (execs (.Assign [.Name z YA] (.Dict [] [] Z') ar::aD) aa) Q E s:=by
 refine YF (wpAny_Assign_Name (hs:=hs aa f.cx.kind f.cx.names) (wpAny_Dict_empty ?_));have hn:s.heap.get? s.heap.objs.size=none:=get_none (Nat.le_refl _);have iy:(s.heap.push {cls:=.type "dict",data:=.dict #[]}).get? s.heap.objs.size=some {cls:=.type "dict",data:=.dict #[]}:=Heap.get?_push_size _ rfl;have f':=f.lay (s':={s with heap:=s.heap.push {cls:=.type "dict",data:=.dict #[]}}) (D:=s.heap.objs.size) (K:=fW s.heap.objs.size []) ⟨_,_,rfl,λ ξ ξ e=>cN _ e⟩ hn ⟨_,iy⟩ (λ b m=>bj m)
  ⟨r9 f.cx,[],Heap.DictOf.new _,rfl,trivial⟩
 exact f'.store hx (P:=lit (.ref s.heap.objs.size)) rfl λ aA bh=>k _ aA (eO f.cx.b4 (Nat.le_refl _)) bh
def xm (abx:cy 1 A) (hA:A.frames=some aT) (abF:iQ aT os) (xX:(σ.es.map λ e=>e.nd.node).Nodup)
  (xg:∀e∈σ.es,∀y∈e.nd.succ,Yb e.nd.node<Yb y/\∃e'∈σ.es,e'.nd.node=y) (J4:σ.es.length<=800):wu A (.ref 169) [gI σ] (bK os) (bK os) (is ()):=λ aw az vs T fr hS hJ p=>by
 have w7:=br;refine kI (ρ:=[("self",gI σ)]) (J:=bK os) (F:=dh os) (o:=MV) T fr abx p abl rfl aaT ⟨168,MU,_,_,rfl,by rfl,rfl,rfl⟩ ["self"]
  (mC (λ a=>by rfl)) abl abd abd hJ (λ b m=>⟨hS b m,m⟩) λ A' Q' aa S s aY i0 hQ ξ ξ fv f=>?_
 have i0:A'.frames=some (aa::aT):=by rw [i0,hA];rfl
 have iw:=f;refine aU f (P:=gW σ) (qg (σ:=σ) af) abd aR λ aj f=>?_;refine rr f abd aR λ ZN aA V4 ξ f=>?_;refine rr f abd aR λ aa0 aH S5 ξ f=>?_;refine Hf f aQ abd aR λ YM bS PR f=>?_;refine EE f abd aR λ Yn bY L8 f=>?_;refine n6 f.jp λ cX S6 qm Ci nN=>?_;refine uW cX λ jL L hd hL ξ=>?_;refine bu qm λ vi X9 hi YI=>?_;refine bu Ci λ vl nl hl al=>?_;have X:dN (gJ ⟨ZN,aa0,YM,Yn⟩ [] []) bY.heap:=by
  have ei:vi=#[]:=by have:=YI.length;simpa using this
  have el:vl=#[]:=by have:=al.length;simpa using this
  subst ei;subst el;refine ⟨?_,⟨_,nl,hl,trivial⟩,⟨X9,hi⟩,?_,⟨L,hd,hL⟩,jL,λ ξ h=>nomatch h⟩
  ·show [ZN,aa0,YM,Yn].Nodup;exact pw (l5 (fb S5).symm (l5 (fb (f3 PR)).symm (l5 (fb (f3 (f3 L8))).symm pq))) (pw (l5 (fb PR).symm (l5 (fb (f3 L8)).symm pq)) (pw (l5 (fb L8).symm pq) (pw pq List.nodup_nil)))
  ·have e:(λ k=>decide (k∈([]:List Tx).map Tx.s))=λ ξ=>false:=by funext k;simp
   show bY.heap.SetOf (abh) YM (λ k=>decide (k∈([]:List Tx).map Tx.s)) 0;rw [e];exact S6
 have r6:∀b∈[ZN,aa0,YM,Yn],b∉dh os:=λ b m q=>by have hb:=iw.sub b (hS b q);exact gg (p:=(·∉_)) V4 (gg (f3 S5) (gg (f3 (f3 PR)) (gg (f3 (f3 (f3 L8))) qV))) b m hb
 have f:=f.fX (aa_:=(wO (Good σ Yb [] [])).and ((jr (gJ ⟨ZN,aa0,YM,Yn⟩ [] [])).and (bK os))) ⟨⟨λ ξ h=>(nomatch h),List.Pairwise.nil,λ ξ h=>(nomatch h),λ ξ h=>(nomatch h),List.nodup_nil⟩,X,nN⟩ (λ b m=>by have m:b∈[]++([ZN,aa0,YM,Yn]++dh os):=m;show b∈[Yn]++([YM]++([aa0]++([ZN]++dh os)));exact (List.mem_append (s:=[ZN,aa0,YM,Yn]).mp m).elim (gg (p:=(·∈Yn::YM::aa0::ZN::dh os)) (Ym _ (Ym _ (Ym _ di))) (gg (Ym _ (Ym _ di)) (gg (Ym _ di) (gg di qV))) b) λ q=>bC [Yn,YM,aa0,ZN] q)
 generalize ha:AE.mk ZN aa0 YM Yn=a at*;have hR:List.lookup ("node2stacki":Str) ([]:eV)=none:=rfl;refine BZ (ai:=σ.es.map λ e=>e.nd.node) (abL:=is) (Ok:=Plain) (α:=List Tx) (qh:=[]) (β:=λ x=>[("node",is x)]) (f9:=λ ξ=>[("node2stacki",lit (.ref a.Yn)),("seen",lit (.ref a.YM)),("itstack",lit (.ref a.aa0)),("stack",lit (.ref a.ZN)),("n2i",gW σ),("self",gI σ)])
  (ZH:=λ ξ τ=>(wO (Good σ Yb [] τ)).and ((jr (gJ a [] τ)).and (bK os))) f (by rw [<-ha];exact λ ξ ξ h=>h) (G5 aY.handled (af (A:=A') (P:=gW σ) abl abd abd abd) (λ g v q=>by refine cO q λ c7 Y=>?_;subst c7;exact jl σ.N _ rfl Y.sys Y.dict (by rw [List.map_map,List.map_map];rfl))) (.name _ _) aR (λ ξ ξ=>bB abd) ?_ ?_
 ·intro i hi K S' s' τ hK f;refine Yj λ Q hQ=>?_;have V5:=List.getElem_mem hi;generalize hx:(σ.es.map λ e=>e.nd.node)[i]=x at*;refine aK (abQ V5) λ ex hex V6=>?_;have g:=f.jp.2.1;have V7:∀{gy:eV} {S':List Addr} {s':Shared} {τ:List Tx},YQ rO rP (dh os) aw az aa gy (K.and ((wO (Good σ Yb [] τ)).and ((jr (gJ a [] τ)).and (bK os)))) S' s'->YQ rO rP (dh os) aw az aa gy (ZR K a os [] τ) S' s':=λ f=>
   f.fX ⟨⟨f.jp.1,f.jp.2.2.1⟩,f.jp.2.2.2⟩ λ b m=>by
    rcases bR m with m|m
    ·rcases bR m with m|m
     ·exact bL _ m
     ·exact bC _ (bC _ (bL _ m))
    ·exact bC _ (bC _ (bC _ m))
  have V8:∀{gy:eV} {S':List Addr} {s':Shared} {τ:List Tx},Good σ Yb [] τ->YQ rO rP (dh os) aw az aa gy (ZR K a os [] τ) S' s'->YQ rO rP (dh os) aw az aa gy (K.and ((wO (Good σ Yb [] τ)).and ((jr (gJ a [] τ)).and (bK os)))) S' s':=λ g f=>
   f.fX ⟨f.jp.1.1,g,f.jp.1.2,f.jp.2⟩ λ b m=>by
    rcases bR m with m|m
    ·exact bL _ (bL _ m)
    ·rcases bR m with m|m
     ·exact (nomatch m)
     ·rcases bR m with m|m
      ·exact bL _ (bC _ m)
      ·exact bC _ m
  have lk:∀y n P,List.lookup n ([("node2stacki",lit (.ref a.Yn)),("seen",lit (.ref a.YM)),("itstack",lit (.ref a.aa0)),("stack",lit (.ref a.ZN)),("n2i",gW σ),("self",gI σ)]:eV)=some P->List.lookup n (sR σ a y)=some P:=λ y=>ay abl (ay abl (ay abl (ay abl (ay abl (ay abl bO)))));have S7:∀b∈(gJ a [] τ).all,b∉K.fp:=λ b m q=>hK b q (bC _ (bL _ m));have AB:∀b∈K.fp,b∉dh os:=λ b q m=>hK b q (bC _ (bC _ m));have PS:∀b∈(gJ a [] τ).all,b∉dh os:=by rw [<-ha];exact λ b m=>r6 b m
  refine nk f (nW (c:=gJ a [] τ) (z:="seen") (W:=w6 (gJ a [] τ)) f abl (λ g X=>⟨rfl,X.seen⟩) f.jp.2.2.1) (b:=decide (x∈τ)) (bg (aV:=is x) (a6:=w6 (gJ a [] τ)) af af uu abl) (λ hb aA bh=>?_) (λ hb aA bh=>?_)
  ·exact Fv (hQ .cont _ ⟨τ,S',λ b m=>m,λ b m=>.inl m,bh.ek (lk x)⟩)
  ·refine bf ?_;exact J5 (Yb:=Yb) (x:=x) (K:=K) (a:=a) (V7 bh) aY i0 fv abF (λ b m=>⟨S7 b m,PS b m⟩) AB g ⟨ex,hex,V6⟩ xX xg J4 λ AF y o9 aH lA zl dC=>hQ .next _ ⟨AF,o9,lA,λ b m=>.inl m,(V8 zl dC).ek (lk y)⟩
 ·intro τ S' s' lA f;refine dO f (P:=is ()) ik λ v dT sQ pv=>hQ _ _ ⟨sQ.aaH,sQ.jp.2.2,wH pv⟩
end
def kL (A:Around) (σ:bQ) (os:List (Addr×Obj)) (aT:List Env) (Yb:Tx->Nat) (vs:List Value):Prop:=∀{S:List Addr} {s:Shared} (abx:cy 2 A) (hA:A.frames=some aT) (abF:iQ aT os) (mK:∀b∈σ.all,b∉dh os) (xX:(σ.es.map λ e=>e.nd.node).Nodup) (xg:∀e∈σ.es,∀y∈e.nd.succ,Yb e.nd.node<Yb y/\∃e'∈σ.es,e'.nd.node=y) (hR:σ.R=none) (hz:σ.es.length<=800) (T:er (hide S s.heap)) (fr:∀b∈S,∃o,s.heap.get? b=some o) (hS:∀b∈σ.all,b∈S) (X:ck σ s.heap) (L9:∀b∈dh os,b∈S) (nN:eB os s.heap) (p:AllP (hide S s.heap) [lit (.ref σ.D)] vs),wpAny (model XX w) A (call (.ref 134) vs []) (λ v s'=>∃R,v= .none/\abO (dh os++σ.all) s s'/\ck (gv σ R) s'.heap/\eB os s'.heap/\(∀b∈(gv σ R).all,b∈σ.all\/s.heap.get? b=none)) dj s
namespace op_prepare2_v
def aau:=ev (U (U (U (U (U kL)))))
def abN:=aau.1.1.1.1.1
def bT:=aau.1.1.1.1.2
def j9:=aau.1.1.1.2
def j4:=aau.1.1.2
def S8:=aau.1.2
def Pj:=aau.2
def Zk:kL abN bT j9 j4 S8 Pj:=by
 intro S s abx hA abF mK xX xg hR hz T fr hS X L9 nN p;have hl:=br;refine kI (ρ:=[("self",lit (.ref bT.D))]) (J:=(bK j9).and (b8 bT)) (F:=dh j9++bT.all) (o:=MP) T fr abx p abl rfl aaT ⟨133,MO,_,_,rfl,by rfl,rfl,rfl⟩ ["self"]
  (mC (λ a=>by rfl)) abl abd abd ⟨nN,X⟩ (λ b m=>⟨(bR m).elim (L9 b) (hS b),m⟩) λ A' Q' aa mD aA aY i0 hQ ξ ξ fv f=>?_
 have i0:A'.frames=some (aa::j4):=by rw [i0,hA];rfl
 have hr:q4 bT.R= .none:=by rw [hR];rfl
 refine nk f (fa (z:="self") f abl f.jp.2) (b:=false) ?_ nD λ ξ aj f=>?_
 ·refine bg (aV:=is ()) (a6:=is ()) ((p7 af).imp λ ξ ξ q=>by rw [hr] at q;exact fe.mpr q) ik (λ S s a b ξ ξ p q=>?_) abl;rw [fe.mp p,fe.mp q];exact wpAny_isNot_plain abl ⟨cB _,is_bool.mpr rfl⟩
 have Cn:=f.jp.2;have bN:=f;refine bf (YF (plainObj_wpAny_Assign_Attribute (hs:=by rfl) ?_));refine yg (sc:=(gE (nc 8 3)).names) (ai:=bT.es) (abL:=λ e=>o4 bT e) (β:=λ e=>[("i",o4 bT e)]) (p:=λ e=>decide (e.nd.np=0)) (R:=λ e=>is e.nd.node) (Ok:=Plain) bV
  (B4 aY.handled (qg (σ:=bT) af) (λ g v q=>by
   refine cO q λ cX Y=>?_;subst cX;refine jl bT.N _ rfl Y.sys Y.dict ?_;rw [List.map_map];have a8:∀L:List Ent,AllP g (L.map λ e=>o4 bT e) (L.map ((λ x=>x.2)∘λ e=>(e.nd.node.s,Value.ref e.a))):=by
    intro L;induction L with
    |nil=>trivial
    |cons a L ih=>exact ⟨⟨rfl,Y⟩,ih⟩
   exact a8 _) (λ ξ=>⟨_,rfl⟩)) (λ ξ ξ=>rfl) (by w_up) (.name _ _) (λ e ξ=>bB abd)
  (λ e he=>e8 (bg (aV:=is e.nd.np) (a6:=is (0:Int)) (Al he af) bX (iE aY bH) abl)) (λ e he ξ=>Jt he af) (fa (z:="self") f abl f.jp.2) λ R aH iq aaR lp=>?_
 have J8:R∉bT.all:=λ m=>by refine aM (qJ Cn R m) λ o e=>?_;rw [aaR] at e;cases e
 have f:=f.keep iq;refine (af (A:=A') (P:=lit (.ref bT.D)) abl abd abd abd).use f.cx λ u bS nP lO oY=>?_;rw [show u= .ref bT.D from oY];have f:=f.keep nP;refine jj f.jp.2.inst λ m t1 t2 I=>?_;refine qF jV (f.cx.top.k.keeps ao) I.inst abl I.Xz bH λ h' tk I' hs=>?_;refine bw lp λ ZS ys abb eD dl Ma=>?_;cases eD;have S9:R≠bT.aaX:=λ q=>J8 (cW (q▸bQ.Z3));have Tc:IsL h' R ys abb:=(hs.2 R S9).trans (kle nP _ _ (ao _ _ dl));have V9:ia (ny bT.pl) ys.toList:=by refine (eH (g:=hide (iI mD bT.all) aH.heap)).mpr ?_;rw [<-LV,List.map_map];exact Ma
 have X':ck (gv bT R) h':=f.jp.2.Sy hR hs (t1:=t1) (t2:=t2) ⟨I',oF I.Xz bH,(if_neg bH).trans I.Ag,if_pos rfl,(if_neg bH).trans I.po,(if_neg bH).trans I.YK⟩ J8 Tc V9;have kk:=aL iq nP;refine bu kk λ B5 NY ff J9=>?_;subst ff;have V':R∉dh j9:=λ m=>by refine aM (eB.live bN.jp.1 R m) λ o e=>?_;rw [aaR] at e;cases e
 have RP:bT.aaX∉dh j9:=mK _ (cW bQ.Z3);have Wa:eB j9 h':=λ p m=>by refine aM (bN.jp.1 p m) λ sl e=>?_;exact ⟨sl,(hs.2 p.1 λ q=>RP (q▸sN m)).trans (J9 _ _ e)⟩
 have f:=bN.step (D:=[bT.aaX]) (N:=[R]) (aa_:=(bK j9).and (b8 (gv bT R))) (h':=h') (tk:=tk) (in1 (bC _ (cW bQ.Z3))) (λ b o n e=>(hs.2 b λ q=>n (List.mem_singleton.mpr q)).trans (J9 b o e)) (in1 (by refine cY I'.ns λ o ξ ξ e ξ=>?_;exact ⟨o,e⟩)) (in1 aaR) (in1 ⟨_,Tc⟩) ⟨Wa,X'⟩ (λ b m=>by
  rcases bR m with m|m
  ·exact .inl (bL _ m)
  rcases tU hR b m with q|q
  ·exact .inl (bC _ q)
  ·exact .inr (List.mem_singleton.mpr q))
 have EF:∀b∈(gv bT R).all,b∉dh j9:=λ b m=>by
  rcases tU hR b m with q|q
  ·exact mK b q
  ·rw [q];exact V'
 refine YF (wpAny_Assign_Name (hs:=by rfl) (eG ⟨_,rfl⟩ ((af (A:=A') (P:=lit (.ref bT.D)) abl abd abd abd).use f.cx λ v bY qY FD kb=>λ pl=>?_)));rw [show v= .ref bT.D from kb];have f:=f.keep qY;refine oH (σ:=gv bT R) (f:=169) (f.cx.top.k.keeps ao) f.jp.2 abl abl bH ?_;refine eg abl (wpAny_items_nil ⟨⟨_,_,ao _ _ (f.cx.top.k 169 _ abl),rfl⟩,?_⟩);have f:=f.fX (aa_:=(b8 (gv bT R)).and (bK j9)) ⟨f.jp.2,f.jp.1⟩ (λ b m=>(bR m).elim (λ m=>bC _ m) (λ m=>bL _ m));have Ct:∀b,b∈([R]++mD)->b∉(gv bT R).all->b∈iI ([R]++mD) (gv bT R).all:=λ b h1 h2=>List.mem_filter.mpr ⟨h1,by simpa using h2⟩;refine f.Au (S':=iI ([R]++mD) (gv bT R).all) (YN:=[gI (gv bT R)]) (P:=is ()) EF abF fv rI (λ b m=>Ct b (f.aar b (bC _ m)).1 λ q=>EF b q m) (Ct _ f.Zt.loc λ q=>(f.aar _ (bL _ q)).2.1 rfl)
  (λ qj lD=>xm (Yb:=S8) aY i0 lD xX xg hz) ⟨⟨rfl,f.jp.1.gV λ b m o e=>kr m e⟩,trivial⟩ λ v dK f pv=>?_
 refine f.store (z:="cycle") (P:=is ()) abd (wH pv) λ dT f=>?_;refine f6 f (b:=false) (cM (P:=is ()) af JH aR) (by simp) λ ξ mS f=>?_;refine bf (bf (hQ _ _ ⟨R,rfl,f.aaH,f.jp.1,f.jp.2,λ b m=>?_⟩));rcases tU hR b m with q|q
 ·exact .inl q
 ·refine (f.aar b (bL _ m)).2.2.2.imp (λ z=>?_) id;rcases bR z with z|z
  ·exact absurd z (EF b m)
  ·exact z
end op_prepare2_v
def AG:kL A σ os aT Yb vs:=s7 (U (U (U (U (U kL))))) op_prepare2_v.Zk (((((A,σ),os),aT),Yb),vs)
noncomputable def gC:List Int:=[6,6,2,6]
noncomputable def sS (a:List Int×Int) (b:Int):List Int×Int:=(a.1++[a.2.fmod b],a.2.fdiv b)
def gX (n:Int) (k:Nat):List Int×Int:=(gC.take k).foldl sS ([],n)
noncomputable def fP (n:Int):List Int:=[n.fmod 6,(n.fdiv 6).fmod 6,((n.fdiv 6).fdiv 6).fmod 2,(((n.fdiv 6).fdiv 6).fdiv 2).fmod 6]
noncomputable def table:List Tx:=[⟨['a']⟩,⟨['b']⟩,⟨['a','b']⟩,⟨['.','.']⟩,⟨['.']⟩,⟨[]⟩]
def pieceAt (n:Int) (k:Int):Tx:=table.getD ((fP n).getD k.toNat 0).toNat ⟨[]⟩
noncomputable def places:List Int:=[0,1,3]
def b6 (n:Int):List Tx:=places.map (pieceAt n)
def ji (bc:List Tx) (p:Tx):List Tx:=if p=k9 then bc.dropLast else if p∉[(⟨[]⟩:Tx),dot] then bc++[p] else bc
def gQ (ps:List Tx):List Tx:=ps.foldl ji []
def Mb:∀(ps bc:List Tx),(ps.foldl ji bc).length<=bc.length+ps.length:=by
 intro ps;induction ps with
 |nil=>intro bc;simp
 |cons p ps ih=>
  intro bc;have:=ih (ji bc p);have h1:(ji bc p).length<=bc.length+1:=by
   unfold ji;split
   ·rw [List.length_dropLast];w_up
   ·split
    ·simp
    ·w_up
  rw [List.foldl_cons,List.length_cons];w_up
def c8 (n:Int):Bool:=decide ((fP n).getD 2 0=1)
def sT (n:Int) {b:Int} (hb:0<b):0<=n.fmod b/\n.fmod b<b:=⟨Int.fmod_nonneg_of_pos _ hb,Int.fmod_lt_of_pos _ hb⟩
def kM (A:Around) (n:Int):Prop:=∀(abx:cy 1 A),fJ A (.ref 308) [is n] (is (X7.mk (b6 n) (gQ (b6 n)) (c8 n)))
namespace op_law_read_v
def aau:=ev (U kM)
def abN:=aau.1
def Zo:=aau.2
def Zk:kM abN Zo:=by
 intro abx;have hl:=br;refine ju (n:=0) (ρ:=[("number",is Zo)]) (o:=Na) abl rfl aaT ⟨307,M',_,_,rfl,by rfl,rfl,rfl⟩ abx (mY λ v=>by rfl) ["number"] rfl abd abd ?_;intro aw az aa S s' A' aY f;refine aU f (P:=is ([]:List Int)) (cf aB (Nat.zero_le _)) abd aR λ aj f=>?_;refine lC (ai:=gC) (abL:=is) (Ok:=Plain) (β:=λ b=>[("base",is b)]) (f9:=λ i=>[("digits",is (gX Zo i).1),("number",is (gX Zo i).2)]) (ZH:=λ ξ=>Y8) (lT:=[("digits",is (gX Zo 4).1)]) (aap:=Y8)
  f (ay abl (ay abl bO)) (bZ aY.handled (cf (au bX (au bX (au bX (au bX aB)))) (by rw [hl];decide))) (.name _ _) (λ ξ=>rfl) (λ b ξ=>bB abd) (λ ξ ξ h=>h) (λ ξ h=>h) ?_ (λ S' s' f=>f.ek (ay abl bO)) λ aA f=>?_
 ·intro i hi K S' aA hK f;refine Yj λ Q hQ=>?_;have zN:gC[i]≠0/\gC[i].natAbs<1073741824:=by
   have:∀b∈gC,b≠0/\b.natAbs<1073741824:=by decide
   exact this _ (List.getElem_mem hi)
  have bl:(gX Zo i).1.length<=100:=by
   have a8:∀(l:List Int) (a:List Int×Int),(l.foldl sS a).1.length=a.1.length+l.length:=by
    intro l;induction l with
    |nil=>intro a;simp
    |cons b l ih=>intro a;rw [List.foldl_cons,ih];simp [sS];w_up
   unfold gX;rw [a8];have:(gC.take i).length<=4:=by rw [List.length_take];exact Nat.min_le_right _ _
   show 0+_<=_;w_up
  have EG:gX Zo (i+1)=sS (gX Zo i) gC[i]:=by unfold gX;rw [List.take_add_one,List.getElem?_eq_getElem hi,List.foldl_append];rfl
  refine vG f (W:=f5 [is ((gX Zo i).1++[(gX Zo i).2.fmod gC[i]]),is ((gX Zo i).2.fdiv gC[i])]) (β:=[("number",is ((gX Zo i).2.fdiv gC[i])),("digits",is ((gX Zo i).1++[(gX Zo i).2.fmod gC[i]]))])
   (nF (au (c6 af (cf (xs:=[(gX Zo i).2.fmod gC[i]]) (au (c6 af af (iW zN.1)) aB) (by simp;w_up)) (dm (by simp;w_up))) (au (c6 af af (zD zN.1 zN.2)) aB)) (by simp;w_up))
   (mh (xs:=[(_,_),(_,_)]) aY.handled rfl abd) abl (nu aa f.cx.names abd) λ aH f=>?_
  refine bf (hQ .next _ ?_);rw [EG];exact f.ek (ay abl (ay abl bO))
 have hd:(gX Zo 4).1=fP Zo:=rfl;rw [hd] at f;have Mc:(fP Zo).length=4:=rfl;refine mW (ai:=places) (abL:=is) (β:=λ k=>[("place",is k)]) (p:=λ ξ=>true) (g:=pieceAt Zo) (Ok:=Plain) f bV (bZ aY.handled (cf (au bX (au bX (au bX aB))) (by rw [hl];decide))) (λ ξ ξ=>rfl) (by rw [hl];decide) (.name _ _) (λ t ξ=>bB abd) (λ ξ ξ=>fy) (λ k hk ξ=>?_) abd (λ aa h1 h2=>du aa h1 h2 abd) λ aH f=>?_
 ·have Wb:0<=k/\k<4:=by
   have:∀k∈places,0<=k/\k<4:=by decide
   exact this k hk
  obtain ⟨d,Td,L2,Xq⟩:∃d,(fP Zo)[k.toNat]? =some d/\0<=d/\d<6:=by
   have b1:=sT Zo (b:=6) (by w_up);have b2:=sT (Zo.fdiv 6) (b:=6) (by w_up);have XR:=sT ((Zo.fdiv 6).fdiv 6) (b:=2) (by w_up);have abw:=sT (((Zo.fdiv 6).fdiv 6).fdiv 2) (b:=6) (by w_up);have dE:k=0\/k=1\/k=2\/k=3:=by w_up
   rcases dE with rfl|rfl|rfl|rfl
   ·exact eX _ rfl b1.1 b1.2
   ·exact eX _ rfl b2.1 b2.2
   ·exact eX _ rfl XR.1 (by w_up)
   ·exact eX _ rfl abw.1 abw.2
  have hp:table[d.toNat]? =some (pieceAt Zo k):=by
   unfold pieceAt;have ZX:(fP Zo).getD k.toNat 0=d:=by rw [List.getD_eq_getElem?_getD,Td];rfl
   rw [ZX,List.getD_eq_getElem?_getD];have:d.toNat<table.length:=by show d.toNat<6;w_up
   rw [List.getElem?_eq_getElem this];rfl
  exact cP (aV:=is table) (a6:=is d) (cf (xs:=table) (au (cD _ abl) (au (cD _ abl) (au (cD _ abl) (au (cD _ abl) (au (cD _ abl) (au (cD _ abl) aB)))))) (by rw [hl];decide))
   (cP (aV:=is (fP Zo)) (a6:=is k) af af (dD Wb.1 (by w_up) Td) ty_list PySem.F.slot_list_getitem.lookup) (dD L2 (by w_up) hp) ty_list PySem.F.slot_list_getitem.lookup
 have Wc:(places.filter λ ξ=>true).map (pieceAt Zo)=b6 Zo:=rfl;rw [Wc] at f;refine aU f (P:=is ([]:List Tx)) (cf aB (Nat.zero_le _)) abd aR λ bS f=>?_;have g8:(b6 Zo).length=3:=rfl;refine lC (ai:=b6 Zo) (abL:=is) (Ok:=Plain) (β:=λ b=>[("piece",is b)]) (f9:=λ i=>[("names",is (gQ ((b6 Zo).take i))),("digits",is (fP Zo)),("pieces",is (b6 Zo))]) (ZH:=λ ξ=>Y8) (lT:=[("names",is (gQ (b6 Zo))),("digits",is (fP Zo)),("pieces",is (b6 Zo))]) (aap:=Y8)
  f (ay abl (ay abl (ay abl bO))) (bZ aY.handled af) (.name _ _) (λ ξ=>rfl) (λ b ξ=>bB abd) (λ ξ ξ h=>h) (λ ξ h=>h) ?_ (λ S' s' f=>f.ek (ay (by rw [List.take_length];rfl) (ay abl (ay abl bO)))) λ bY f=>?_
 ·intro i hi K S' aA hK f;refine Yj λ Q hQ=>?_;have Sk:(gQ ((b6 Zo).take i)).length<=100:=by have:=Mb ((b6 Zo).take i) [];rw [List.length_take] at this;show (List.foldl ji [] ((b6 Zo).take i)).length<=_;simp at this;w_up
  have hj:gQ ((b6 Zo).take (i+1))=ji (gQ ((b6 Zo).take i)) (b6 Zo)[i]:=by unfold gQ;rw [List.take_add_one,List.getElem?_eq_getElem hi,List.foldl_append];rfl
  generalize VE:(b6 Zo)[i]=c at*;generalize Lz:gQ ((b6 Zo).take i)=bc at*;refine f6 f (b:=decide (c=k9)) (bg (aV:=is c) (a6:=is k9) af (cD _ abl) (iE aY bH) rfl) (λ h aH f=>?_) (λ h aH f=>?_)
  ·have e:ji bc c=bc.dropLast:=by unfold ji;rw [if_pos (by simpa using h)]
   refine aU f (P:=is bc.dropLast) (cP (aV:=is bc) (a6:=ef none (some (-1)) none) af (fq cR (eN (qC bX)) cR) (A6 (by w_up)) ty_list PySem.F.slot_list_getitem.lookup) abd aR λ bS f=>?_;refine bf (bf (hQ .next _ (f.ek (ay (by rw [hj,e];rfl) (ay abl (ay abl bO))))))
  ·refine f6 f (b:=!decide (c∈[(⟨[]⟩:Tx),dot])) (bg (aV:=is c) (a6:=is [(⟨[]⟩:Tx),dot]) af (cf (xs:=[(⟨[]⟩:Tx),dot]) (au (cD _ abl) (au (cD _ abl) aB)) (by rw [hl];decide)) (jJ aY bH) abl) (λ h' bS f=>?_) (λ h' bS f=>?_)
   ·have e:ji bc c=bc++[c]:=by unfold ji;rw [if_neg (by simpa using h),if_pos (by simpa using h')]
    refine aU f (P:=is (bc++[c])) (c6 af (cf (xs:=[c]) (au af aB) (by simp;w_up)) (dm (by simp;w_up))) abd aR λ bY f=>?_;refine bf (bf (bf (hQ .next _ (f.ek (ay (by rw [hj,e];rfl) (ay abl (ay abl bO)))))))
   ·have e:ji bc c=bc:=by unfold ji;rw [if_neg (by simpa using h),if_neg (by simpa using h')]
    refine bf (bf (bf (hQ .next _ (f.ek (ay (by rw [hj,e];rfl) (ay abl (ay abl bO)))))))
 ·refine dO f (P:=is (X7.mk (b6 Zo) (gQ (b6 Zo)) (c8 Zo))) (HY (au af (au af (au (r3 (aV:=is ((fP Zo).getD 2 0)) (a6:=is (1:Int)) (cP (aV:=is (fP Zo)) (a6:=is (2:Int)) af bX (dD (by w_up) (by w_up) rfl) ty_list PySem.F.slot_list_getitem.lookup) bX (iE aY bH)) aB)))) λ v aH f' p=>f'.gc (F:=[]) p
end op_law_read_v
def AH {n:Int}:kM A n:=s7 (U kM) op_law_read_v.Zk (A,n)
noncomputable def abj:List Tx->Tx
 |[]=>⟨[]⟩
 |[x]=>x
 |x::y::r=>x++(aF++abj (y::r))
def Zl (ns:List Tx):Tx:=aF++abj ns
def glued_cons (g:Str) (x y:Str) (r:List Str):PySem.Builtin.Str.glued g (x::y::r)=x++(g++PySem.Builtin.Str.glued g (y::r)):=by
 have a8:∀(r:List Str) (a b:Array Nat),r.foldl (λ aO p=>aO++g.cps++p.cps) (a++b)=a++r.foldl (λ aO p=>aO++g.cps++p.cps) b:=by
  intro r;induction r with
  |nil=>intro a b;rfl
  |cons p r ih=>
   intro a b;rw [List.foldl_cons,List.foldl_cons,<-ih];congr 1;rw [Array.append_assoc,Array.append_assoc,Array.append_assoc]
 show Str.mk _=Str.mk (x.cps++(g.cps++_));congr 1;show (y::r).foldl (λ aO p=>aO++g.cps++p.cps) x.cps=x.cps++(g.cps++r.foldl (λ aO p=>aO++g.cps++p.cps) y.cps);rw [List.foldl_cons,<-a8,<-a8,Array.append_assoc]
theorem sU:∀ns:List Tx,Txt.join aF.s (ns.map Tx.s)=(abj ns).s
 |[]=>rfl
 |[x]=>by show PySem.Builtin.Str.glued _ [x.s]=x.s;unfold PySem.Builtin.Str.glued;rfl
 |x::y::r=>by show PySem.Builtin.Str.glued aF.s (x.s::y.s::r.map Tx.s)=(x++(aF++abj (y::r))).s;rw [glued_cons,Tx.jI,Tx.jI,<-sU (y::r)];rfl
def u1 (ns:List Tx) (m:Nat) (h:∀c∈ns,c.cs.length<=m):(abj ns).cs.length<=ns.length*(m+1):=by
 induction ns with
 |nil=>exact Nat.zero_le _
 |cons x r ih=>cases r with
  |nil=>
   have:=h x (List.mem_singleton.mpr rfl);show x.cs.length<=1*(m+1);w_up
  |cons y r=>
   have h1:=h x di;have h2:=ih λ c hc=>h c (Ym _ hc);show (x++(aF++abj (y::r))).cs.length<=_;rw [Tx.d9,Tx.d9,gD,gD];have e:aF.cs.length=1:=rfl;have e2:(x::y::r).length*(m+1)=(y::r).length*(m+1)+(m+1):=by rw [List.length_cons (a:=x),Nat.succ_mul]
   rw [e2,e];w_up
def joinOk_of {ns:List Tx} (hn:ns.length<=100) (h:∀c∈ns,c.cs.length<=100):JoinOk aF.s (ns.map Tx.s)=true:=by
 have a8:∀(l:List Tx) (a:Nat),(∀c∈l,c.cs.length<=100)->(l.map Tx.s).foldl (λ aO p=>aO+p.length+aF.s.length) a<=a+l.length*101:=by
  intro l;induction l with
  |nil=>intro a _;simp
  |cons x l ih=>
   intro a h;have h1:=h x di;have h2:=ih (a+x.s.length+aF.s.length) λ c hc=>h c (Ym _ hc);rw [List.map_cons,List.foldl_cons,List.length_cons];have e:aF.s.length=1:=rfl;have e2:x.s.length=x.cs.length:=Tx.len x;rw [e,e2] at h2⊢;w_up
 unfold JoinOk PySem.Builtin.Str.tooLong;have h1:=a8 ns 0 h;have hl:=br;rw [Bool.not_eq_true',decide_eq_false_iff_not,List.foldl_toArray];w_up
def uw (n:Nat):Builtin.Range.rangeSize (n:Int) 0 (-1)=(n:Int):=by
 unfold Builtin.Range.rangeSize;rw [if_neg bH];by_cases h:(n:Int)>0
 ·rw [if_pos h,show (- -1:Int)=1 from rfl,Int.ediv_one];w_up
 ·rw [if_neg h];w_up
def AI (h:n<=1000000):Builtin.Range.small (n:Int) 0 (-1)=true:=by
 unfold Builtin.Range.small;rw [uw];have e:∀i:Int,-1000001<=i->i<=1000001->Builtin.Range.rangeFitsLong i=true:=λ i h1 h2=>by unfold Builtin.Range.rangeFitsLong;simp;w_up
 rw [e n (by w_up) (by w_up),e 0 (by w_up) (by w_up),e (-1) (by w_up) (by w_up),if_neg bH,e (0+(-1+1)) (by w_up) (by w_up)];simp
def nX (n:Nat):Builtin.Range.rangeSize 0 (n:Int) 1=(n:Int):=by
 unfold Builtin.Range.rangeSize;rw [if_pos bH];by_cases h:(0:Int)<n
 ·rw [if_pos h,Int.ediv_one];w_up
 ·rw [if_neg h];w_up
def oN (h:n<=1000000):Builtin.Range.small 0 (n:Int) 1=true:=by
 unfold Builtin.Range.small;rw [nX];have e:∀i:Int,-1000001<=i->i<=1000001->Builtin.Range.rangeFitsLong i=true:=λ i h1 h2=>by unfold Builtin.Range.rangeFitsLong;simp;w_up
 rw [e n (by w_up) (by w_up),e 0 (by w_up) (by w_up),e 1 (by w_up) (by w_up),if_pos bH,e ((n:Int)+(1 - 1)) (by w_up) (by w_up)];simp
noncomputable def mL (kvs:List (Tx×Tx)) (k v:Tx):List (Tx×Tx):=
 if kvs.any (λ kv=>decide (kv.1=k)) then kvs.map (λ kv=>if kv.1=k then (kv.1,v) else kv) else kvs++[(k,v)]
def iB (kvs:List (Tx×Tx)):List (Tx×YJ):=kvs.map λ p=>(p.1,is p.2)
def Cu (kvs:List (Tx×Tx)) (k v:Tx):fT (iB kvs) k (is v)=iB (mL kvs k v):=by
 have ha:(iB kvs).any (λ kv=>decide (kv.1=k))=kvs.any (λ kv=>decide (kv.1=k)):=by unfold iB;rw [List.any_map];rfl
 unfold fT mL;rw [ha];split
 ·unfold iB;rw [List.map_map,List.map_map];refine List.map_congr_left λ p ξ=>?_;obtain ⟨a,b⟩:=p;by_cases e:a=k
  ·simp [e]
  ·simp [e]
 ·unfold iB;rw [List.map_append];rfl
def AJ (kvs:List (Tx×Tx)) (k v:Tx):(mL kvs k v).length<=kvs.length+1:=by
 unfold mL;split
 ·rw [lm];w_up
 ·rw [gD];exact Nat.le_refl _
def qM (names:List Tx) (kvs:List (Tx×Tx)) (i:Nat):List (Tx×Tx):=mL kvs (Zl (names.take (names.length - i))) (Zl (names.take (names.length - i - 1)))
def gw (kvs:List (Tx×Tx)) (names:List Tx) (k:Nat):List (Tx×Tx):=(List.range k).foldl (qM names) kvs
def a9 (aC:List (List Tx)):List (Tx×Tx):=aC.foldl (λ kvs names=>gw kvs names names.length) [(aF,aF)]
def xn (names:List Tx) (kvs:List (Tx×Tx)):∀k,(gw kvs names k).length<=kvs.length+k:=by
 intro k;induction k with
 |zero=>exact Nat.le_refl _
 |succ k ih=>
  have h1:=ih;have:gw kvs names (k+1)=qM names (gw kvs names k) k:=by unfold gw;rw [List.range_succ,List.foldl_append];rfl
  rw [this];have h2:=AJ (gw kvs names k) (Zl (names.take (names.length - k))) (Zl (names.take (names.length - k - 1)));unfold qM;w_up
def xo:∀(aC:List (List Tx)) (kvs:List (Tx×Tx)) (m:Nat),(∀r∈aC,r.length<=m)->(aC.foldl (λ kvs names=>gw kvs names names.length) kvs).length<=kvs.length+aC.length*m:=by
 intro aC;induction aC with
 |nil=>intro kvs m _;simp
 |cons r aC ih=>
  intro kvs m h;have h1:=ih (gw kvs r r.length) m λ q hq=>h q (Ym _ hq);have h2:=xn r kvs r.length;have h3:=h r di;rw [List.foldl_cons,List.length_cons,Nat.succ_mul];w_up
def EH {ns:List Tx} (hn:ns.length<=100) (hc:∀c∈ns,c.cs.length<=100) (hl:Ev A sc ρ e (is (ns.take k))) {p1 p2 p3 p4:Pos} {c1 c2:Nat} {x1 x2:Str} (h1:x1=aF.s) (h2:x2=aF.s)
  (nj:eT [e]) (fh:∀aa,starEach [e] aa=(false,eval e aa)::starEach [] aa)
  (he:∀aa,∃pl:Sem Bool,eval (.Call (.Attribute (.Constant (.str x2) c2 p2) "join" p3) [e] [] p4) aa=(do
   let ov<-eval (.Constant (.str x2) c2 p2) aa
   standAt p3.atName
   let (f,first)<-holding [ov] (getMethod ov "join" pl)
   callWith p4 f first (backTo p4 (starEach [e] aa)) [])):
  Ev A sc ρ (.BinOp (.Constant (.str x1) c1 p1) .Add (.Call (.Attribute (.Constant (.str x2) c2 p2) "join" p3) [e] [] p4) ar) (is (Zl (ns.take k))):=by
 have eF:=br;have jz:(ns.take k).length<=100:=by rw [List.length_take];w_up
 have n8:∀c∈ns.take k,c.cs.length<=100:=λ c m=>hc c (List.mem_of_mem_take m);have hj:=u1 (ns.take k) 100 n8;refine c6 (aV:=is aF) (a6:=is (abj (ns.take k))) (cD aF h1) (g4 (gZ:=is aF) (YN:=[is (ns.take k)]) (cD aF h2) (my PySem.F.slot_str_join PySem.F.type_str_join) (au hl aB (λ aa=>fh aa)) nj trivial (wk (sU _) (joinOk_of jz n8)) he) (jx ?_);have:(ns.take k).length*(100+1)<=100*101:=Nat.mul_le_mul jz (Nat.le_refl _);have e:aF.cs.length=1:=rfl;w_up
def ym {aC:List (List Tx)} (abx:cy 1 A) (h1:aC.length<=100) (h2:∀r∈aC,r.length<=100/\∀c∈r,c.cs.length<=100):fJ A (.ref 315) [is aC] (gB (iB (a9 aC))):=by
 have hl:=br;refine ju (n:=0) (ρ:=[("rows",is aC)]) (o:=Nc) abl rfl aaT ⟨314,Nb,_,_,rfl,by rfl,rfl,rfl⟩ abx (mY λ v=>by rfl) ["rows"] rfl abd abd ?_;intro aw az aa S s' A' aY f;have gz:=f.sub;refine IF f (P:=is aF) (k:=aF) (cD aF abl) (cD aF abl) abd aR abl λ D aj e9 pU f=>?_;have h0:D∉aw:=λ m=>e9 (gz D m);refine lC (ai:=aC) (abL:=is) (Ok:=Plain) (β:=λ b=>[("names",is b)]) (f9:=λ i=>[("above",lit (.ref D))]) (ZH:=λ i=>(fW D (iB (a9 (aC.take i)))).and Y8) (lT:=[("above",lit (.ref D))]) (aap:=(fW D (iB (a9 aC))).and Y8)
  f (ay abl bO) (bZ aY.handled af) (.name _ _) (λ ξ=>rfl) (λ b ξ=>bB abd) (λ ξ ξ h=>h) (λ ξ h=>h) ?_ (λ S' s' f=>by rw [List.take_length] at f;exact f) λ aA f=>?_
 ·intro i hi K S' aA hK f;refine Yj λ Q hQ=>?_;have sK:D∉K.fp:=λ m=>hK D m di;have hr:=h2 _ (List.getElem_mem hi);have bl:(a9 (aC.take i)).length<=1+100*100:=by
   have:=xo (aC.take i) [(aF,aF)] 100 λ r m=>(h2 r (List.mem_of_mem_take m)).1;have h3:(aC.take i).length<=100:=by rw [List.length_take];w_up
   have h4:(aC.take i).length*100<=100*100:=Nat.mul_le_mul h3 (Nat.le_refl _);have e:([(aF,aF)]:List (Tx×Tx)).length=1:=rfl;unfold a9;w_up
  have EG:a9 (aC.take (i+1))=gw (a9 (aC.take i)) aC[i] aC[i].length:=by unfold a9;rw [List.take_add_one,List.getElem?_eq_getElem hi,List.foldl_append];rfl
  generalize Te:aC[i]=nm at*;generalize Xr:a9 (aC.take i)=kv at*;have Tf:D∈S':=(f.aar D (bC _ (bL _ (List.mem_singleton.mpr rfl)))).1;refine lC (ai:=List.range nm.length) (abL:=λ i=>is ((nm.length:Int)+(i:Int)*(-1))) (Ok:=Plain) (β:=λ i=>[("size",is ((nm.length:Int)+(i:Int)*(-1)))]) (f9:=λ i=>[("above",lit (.ref D)),("names",is nm)]) (ZH:=λ i=>K.and ((fW D (iB (gw kv nm i))).and Y8)) (lT:=[("above",lit (.ref D)),("names",is nm)]) (aap:=K.and ((fW D (iB (gw kv nm nm.length))).and Y8))
   f (ay abl (ay abl bO)) (mu (a:=nm.length) (b:=0) (c:=-1) aY.handled (ba (f:=.type "range") (YN:=[is (nm.length:Int),is (0:Int),is (-1:Int)]) aQ (au (ba (f:=.builtin "len") (YN:=[is nm]) aQ (au af aB) aR trivial (dM (by w_up))) (au bX (au (qC bX) aB))) aR trivial (DE bH bH)) ?_ ?_) (.name _ _) (λ ξ=>rfl) (λ b ξ=>bB abd) (λ ξ ξ h=>h) (λ ξ h=>h) ?_ (λ S' s' f=>by rw [List.length_range] at f;exact f) λ aH f=>?_
  ·exact AI (by w_up)
  ·exact uw _
  ·intro j hj K' o9 bS JU f;refine Yj λ Q hQ=>?_;simp only [List.getElem_range] at f;have Tg:j<nm.length:=by simpa using hj
   have Th:D∉K'.fp:=λ m=>JU D m Tf;have e1:(nm.length:Int)+(j:Int)*(-1)=((nm.length - j:Nat):Int):=by w_up
   have e2:((nm.length - j:Nat):Int) - 1=((nm.length - j - 1:Nat):Int):=by w_up
   rw [e1] at f;have Xs:=xn nm kv j;have fh:gw kv nm (j+1)=qM nm (gw kv nm j) j:=by unfold gw;rw [List.range_succ,List.foldl_append];rfl
   refine DQ f (D:=D) (kvs:=iB (gw kv nm j)) (P:=is (Zl (nm.take (nm.length - j - 1)))) (k:=Zl (nm.take (nm.length - j)))
    (EH hr.1 hr.2 (cP (aV:=is nm) (a6:=ef none (some ((nm.length - j - 1:Nat):Int)) none) af (fq cR (eN (by rw [<-e2];exact c6 af bX A3)) cR) (pE (by w_up)) ty_list PySem.F.slot_list_getitem.lookup) abl abl aR (λ ξ=>rfl) (λ ξ=>⟨_,rfl⟩)) af
    (EH hr.1 hr.2 (cP (aV:=is nm) (a6:=ef none (some ((nm.length - j:Nat):Int)) none) af (fq cR (eN af) cR) (pE (by w_up)) ty_list PySem.F.slot_list_getitem.lookup) abl abl aR (λ ξ=>rfl) (λ ξ=>⟨_,rfl⟩))
    (g7 (g7 (t9 (K:=fW D (iB (gw kv nm j))) (K':=fW D (fT (iB (gw kv nm j)) (Zl (nm.take (nm.length - j))) (is (Zl (nm.take (nm.length - j - 1)))))) (J:=Y8) rfl rfl (λ m=>nomatch m)) sK) Th) (by unfold iB;rw [lm];w_up) aR λ bY f=>?_
   rw [Cu] at f;refine bf (hQ .next _ ?_);show YQ _ _ _ _ _ _ _ (K'.and (K.and ((fW D (iB (gw kv nm (j+1)))).and Y8))) o9 bY;rw [fh];exact f.ek (ay abl (ay abl bO))
  ·refine bf (hQ .next _ ?_);show YQ _ _ _ _ _ _ _ (K.and ((fW D (iB (a9 (aC.take (i+1))))).and Y8)) S' aH;rw [EG];exact f.ek (ay abl bO)
 ·have f:=f.GG (z:="above") (W:=gB (iB (a9 aC))) (List.mem_singleton.mpr rfl) abl (GH f.jp.1) h0 (λ m=>nomatch m);exact dO f (P:=gB (iB (a9 aC))) af λ v aH f' p=>f'.gc (F:=[]) p
noncomputable def bt (b:Bool):Tx:=if b then ⟨['T','r','u','e']⟩ else ⟨['F','a','l','s','e']⟩
noncomputable def qN:Nat->Tx->List Bool->Tx
 |_,aO,[]=>aO
 |k,aO,b::r=>qN (k+1) (aO++(if k>0 then ⟨[',',' ']⟩ else ⟨[]⟩)++bt b) r
def says (bs:List Bool):Tx:=qN 0 ⟨['[']⟩ bs++⟨[']']⟩
def PT (b:Bool):(PyData.bool b).shown=(bt b).s:=by cases b<;>decide+kernel
def EI:∀(bs:List Bool) (k:Nat) (aO:Tx),textFrom k aO.s (PyData.shownAll (bs.map aaK.py))=(qN k aO bs).s:=by
 intro bs;induction bs with
 |nil=>intro k aO;exact rfl
 |cons b r ih=>
  intro k aO;have e:(if k>0 then ", " else "":String)=(if k>0 then (", ":String) else ""):=rfl;have e2:Str.ofString (if k>0 then ", " else "":String)=((if k>0 then ⟨[',',' ']⟩ else ⟨[]⟩:Tx)).s:=by
   by_cases h:k>0
   ·rw [if_pos h,if_pos h];decide+kernel
   ·rw [if_neg h,if_neg h];decide+kernel
  show textFrom (k+1) (aO.s++Str.ofString (if k>0 then ", " else "":String)++(PyData.bool b).shown) (PyData.shownAll (r.map aaK.py))=_;rw [e2,PT,<-Tx.jI,<-Tx.jI,ih (k+1)];rfl
def Cv (bs:List Bool):(PyData.list (bs.map aaK.py)).shown=(says bs).s:=by
 have h:=EI bs 0 ⟨['[']⟩
 show textFrom 0 (Str.ofString "[") (PyData.shownAll (bs.map aaK.py))++Str.ofString "]"=_;have e1:Str.ofString "["=(⟨['[']⟩:Tx).s:=by decide+kernel
 have e2:Str.ofString "]"=(⟨[']']⟩:Tx).s:=by decide+kernel
 rw [e1,e2,h,<-Tx.jI];rfl
def Cw:∀(bs:List Bool) (k:Nat) (aO:Tx),(qN k aO bs).cs.length<=aO.cs.length+7*bs.length:=by
 intro bs;induction bs with
 |nil=>intro k aO;exact Nat.le_refl _
 |cons b r ih=>
  intro k aO;have h:=ih (k+1) (aO++(if k>0 then ⟨[',',' ']⟩ else ⟨[]⟩)++bt b);have h1:(bt b).cs.length<=5:=by cases b<;>decide
  have h2:((if k>0 then ⟨[',',' ']⟩ else ⟨[]⟩:Tx)).cs.length<=2:=by split<;>decide
  rw [Tx.d9,Tx.d9,gD,gD] at h;show (qN (k+1) _ r).cs.length<=_;rw [List.length_cons];w_up
def uU:∀bs:List Bool,PyData.showableAll (bs.map aaK.py)=true:=by
 intro bs;induction bs with
 |nil=>exact rfl
 |cons b r ih=>
  show (PyData.showable (.bool b)&&PyData.showableAll (r.map aaK.py))=true;rw [ih];rfl
def nA {bs:List Bool} (abx:cy n A) (hz:bs.length<=1000):fJ A (.type "str") [is bs] (is (says bs)):=λ S s vs T fr p=>by
 refine aK p.one λ v cX pv=>?_;subst cX;refine bw (is_list.mp pv) λ a vs m c7 ha pa=>?_;subst c7;refine aM (zE pv) λ as r=>?_;have hl:=br;have hd:(PyData.list (bs.map aaK.py)).depth<=64:=by have h1:=zC bs;have h2:aaK.Z' Bool=0:=rfl;show PyData.depthAll (bs.map aaK.py)+1<=64;w_up
 have HU:PyData.canLayAll0 (bs.map aaK.py)=true:=pA bs;refine str_of_reads (d:=.list (bs.map aaK.py)) r (uU bs) (PyData.noDict_hsm ?_) abx.guards ?_ (λ ξ ξ e=>e) (λ h' u tk hk=>⟨⟨_,_,rfl,hk⟩,bz.mpr ⟨u,?_⟩⟩) ?_
 ·exact PyData.hasDictAll_of_canLayAll _ HU
 ·have:=abx.units;w_up
 ·rw [Cv]
 ·rw [Cv,Tx.len];have h1:=Cw bs 0 ⟨['[']⟩
  show (qN 0 ⟨['[']⟩ bs++⟨[']']⟩:Tx).cs.length<=_;rw [Tx.d9,gD];have e:(⟨['[']⟩:Tx).cs.length=1:=rfl
  have e':(⟨[']']⟩:Tx).cs.length=1:=rfl
  w_up
def Hg {ai:List ι} {abL:ι->YJ} {β:ι->eV} {p:ι->Bool}
  {js:ι->List κ} {XU:κ->YJ} {iO ee:Expr} {jo:List Expr} {p9:ι->κ->eV} {q:ι->κ->Bool} {R:ι->κ->YJ} {m:Nat} {z:Str} {YA be:Pos}
  (f:YQ sc ak F aw az aa ρ J S s) (ok:fS sc ρ ag) {Ok yd:Expr->Prop} (hs:jP A sc ρ aG ai abL Ok) (iG:∀aa x,foldedSetIterable aG aa x=pure x) (bl:ai.length<=sizeLine) (g8:Ok aN)
  (ht:∀a∈ai,jn A (cg sc ag.names) (ownOf ag) aN (abL a) (β a))
  (ng:∀a∈ai,lM A (cg sc ag.names) (β a++e7 ag ρ) bA (p a))
  (rA:∀a∈ai,jP A (cg sc ag.names) (β a++e7 ag ρ) ee (js a) XU yd) (BN:∀aa x,foldedSetIterable ee aa x=pure x) (q6:yd iO)
  (Jl:∀a∈ai,∀b∈js a,jn A (cg sc ag.names) (ownOf ag) iO (XU b) (p9 a b))
  (gz:∀a∈ai,∀b∈js a,∀n P,(β a++e7 ag ρ).lookup n=some P->(p9 a b++(β a++e7 ag ρ)).lookup n=some P)
  (BO:∀a∈ai,∀b∈js a,lM A (cg sc ag.names) (p9 a b++(β a++e7 ag ρ)) jo (q a b))
  (ni:∀a∈ai,∀b∈js a,p a=true->q a b=true->Ev A (cg sc ag.names) (p9 a b++(β a++e7 ag ρ)) bP (R a b))
  (n9:∀n∈ownOf ag,(cg sc ag.names).lookup n=some .cell)
  (hm:∀a∈ai,(js a).length<=m) (hz:ai.length*m<=sizeLine)
  (hx:cw ak sc z=true) (gP:∀aa:Env,aa.scope.kind= .function->aa.scope.names=sc->swapsWith (.ListComp bP [⟨aN,aG,bA,0⟩,⟨iO,ee,jo,0⟩] ag be) (some (.Name z YA)) ar.line aa=pure true)
  (ID:∀h v,(cH (ib ai p js q R)).p h v->P.p h v)
  (k:∀s',YQ sc ak F aw az aa ((z,P)::ρ) J S s'->wpAny (model XX w) A (execs aD aa) Q E s'):
  wpAny (model XX w) A (execs (.Assign [.Name z YA] (.ListComp bP [⟨aN,aG,bA,0⟩,⟨iO,ee,jo,0⟩] ag be) ar::aD) aa) Q E s:=by
 refine YF ?_;rw [exec_Assign_Name_used _ _ _ _ (gP aa f.cx.kind f.cx.names)];refine Z4 (ig (Z4 ?_));show wpAny _ A (do let _<-comprehension (.ListComp bP [⟨aN,aG,bA,0⟩,⟨iO,ee,jo,0⟩] ag be) ag aa _ (newList []) false (eval aG aa) (some (assign (.Name z YA) aa))) _ _ s;refine Z4 (o3 (Q:=λ ξ s'=>wpAny (model XX w) A (pure ()) (λ ξ s'=>wpAny (model XX w) A (pure Flow.next) (λ f s'=>match f with| .next=>wpAny (model XX w) A (execs aD aa) Q E s'|f=>Q f s') E s') E s') ok hs iG bl g8 ht ng rA BN q6 Jl gz BO ni n9 hm hz f.cx λ D C s' kk Zj Zw ne hn hw=>?_);refine aM hn λ m hm=>?_;have Oz:∃o,s'.heap.get? C=some o:=by refine cY hm λ o ξ ξ e ξ=>?_;exact ⟨o,e⟩
 have bN:=f.yG (D:=[C]) (K:=IC C) kk (λ b m=>by rw [bj m];exact Zj) (λ b m=>by rw [bj m];exact Oz) (λ b m=>m) trivial;have Ze:=bN.aar C (bL _ (List.mem_singleton.mpr rfl));refine wpAny_assign_Name (gO (P:=P) bN.cx bN.Zt hx (ID _ _ hw) λ aA a b d g=>?_);have bh:=bN.kept a b d g;have DP:aA.heap.Ns C m:=by refine cY hm λ o es ep e r=>?_;exact rZ o es ep (g C o Ze.2.1 (λ n ξ=>Ze.2.2.1 n) e) r
 refine cV m DP (λ h' gA=>X5 (X5 ?_));have Y6:YQ sc ak F aw az aa ((z,P)::ρ) J S aA:=bh.shrink (λ b hb=>bC _ hb) f.sub f.Zt.loc (λ n hn kk b e=>by refine bU (f.Zt.gb n hn kk) λ c v a1 a2 ξ=>?_;rw [a1] at e;cases e;exact a2) bh.jp.2 λ b hb=>⟨bC _ hb,(f.aar b hb).1⟩
 refine k _ (YQ.drop (D:=[C]) (tk:=aA.toks) bh Y6 (λ b o nb e=>(gA.2 b λ q=>nb (List.mem_singleton.mpr q)).trans e) (λ m=>Ze.2.1 (bj m).symm) (λ n b e m=>Ze.2.2.1 n ((bj m)▸e)) (λ b hb m=>?_) λ b m=>?_)
 ·refine aM (f.cx.b4 b hb) λ o e=>?_;rw [bj m,Zj] at e;cases e
 ·rw [bj m];cases e:az.heap.get? C with
  |none=>rfl
  |some o=>refine aM (f.aaH.live _ _ e) λ o' aa8=>?_;rw [Zj] at aa8;cases aa8
variable {aW:List Turn}
abbrev Turn:=Y7 Tx (jS Tx) (List Tx) (List Tx) Tx
variable {st:Hh}
structure Hh where
 turns:List Turn
 hand:List Tx
 past:List Tx
 given:List Tx
noncomputable def aa8:Tx:=⟨['/','z','z']⟩
noncomputable def kB:Tx:=⟨['n','o','d','e',' ','\'']⟩
noncomputable def nY:Tx:=⟨['\'',' ','w','a','s',' ']⟩
noncomputable def qo:Tx:=⟨['a','l','r','e','a','d','y',' ','m','a','r','k','e','d',' ','d','o','n','e']⟩
noncomputable def Cx:Tx:=⟨['n','o','t',' ','p','a','s','s','e','d',' ','o','u','t',' ','(','s','t','i','l','l',' ','n','o','t',' ','r','e','a','d','y',')']⟩
noncomputable def Cy:Tx:=⟨['n','o','t',' ','a','d','d','e','d',' ','u','s','i','n','g',' ','a','d','d','(',')']⟩
noncomputable def pick (xs:List Tx) (n:Int):Tx:=xs.getD (n.fmod (xs.length:Int)).toNat ⟨[]⟩
def fQ (ah bJ:List Tx):List Tx:=ah.filter (λ p=>!decide (p∈bJ))++[aa8]
noncomputable def cE (aq:List (Tx×Tx)) (fi:Tx):Tx:=((aq.find? λ kv=>decide (kv.1=fi)).map (·.2)).getD ⟨[]⟩
def wordsOf (past:List Tx) (b7:Tx):Tx:=if b7=aa8 then Cy else if b7∈past then qo else Cx
noncomputable def cu (av a7:List Tx):List Tx:=a7.filter λ p=>decide (p∈av)
noncomputable def c9 (av a7 bJ:List Tx):List Tx:=bJ++a7.filter λ p=>!decide (p∈av)
def df (cC bJ:List Tx) (number:Int):List Tx:=if cC=[]/\bJ≠[] then [pick bJ number] else []
noncomputable def fM (av a7:List Tx):List Bool:=a7.map λ p=>decide (p∈av)
def nextOf (ah:List Tx) (aq:List (Tx×Tx)) (gone:List Tx):List Tx:=
 ib gone (λ ξ=>true) (λ ξ=>ah) (λ one fi=>!decide (fi=aF)&&(decide (cE aq fi=one)&&true)) λ ξ fi=>fi
noncomputable def numAt (ae:List Int) (i:Nat):Int:=ae.getD (((i:Int)).fmod (ae.length:Int)).toNat 0
def lj (ah:List Tx) (aq:List (Tx×Tx)) (av:List Tx) (ae:List Int) (st:Hh) (i:Nat):Hh:=
 let number:=numAt ae i
 let b7:=pick (fQ ah st.hand) number
 let Gc:=!decide (st.given=[])||!decide (st.hand=[])
 let cC:=cu av st.given
 let bJ:=c9 av st.given st.hand
 let gx:=df cC bJ number
 ⟨st.turns++[⟨kB++b7++nY++wordsOf st.past b7,⟨st.given⟩,cC,gx,says ([Gc,Gc]++fM av st.given)⟩],
  bJ.filter (λ p=>!decide (p∈gx)),st.past++cC++gx,nextOf ah aq (cC++gx)⟩
def bF (ah:List Tx) (aq:List (Tx×Tx)) (av:List Tx) (ae:List Int) (k:Nat):Hh:=
 (List.range k).foldl (lj ah aq av ae) ⟨[],[],[],[aF]⟩
def cv:Turn:=⟨⟨[]⟩,⟨[]⟩,[],[],says [false]⟩
def fY (ah:List Tx) (aq:List (Tx×Tx)) (av:List Tx) (ae:List Int):List Turn:=(bF ah aq av ae ah.length).turns++[cv]
def fF (ah:List Tx) (aq:List (Tx×Tx)) (av:List Tx) (ae:List Int) (k:Nat):bF ah aq av ae (k+1)=lj ah aq av ae (bF ah aq av ae k) k:=by unfold bF;rw [List.range_succ,List.foldl_append];rfl
noncomputable def J':List Stmt->List Stmt
 |st::_=>m9 st
 |[]=>[]
def oO (ah:List Tx) (aq:List (Tx×Tx)) (av:List Tx) (ae:List Int):∀k,(bF ah aq av ae k).turns.length=k:=by
 intro k;induction k with
 |zero=>exact rfl
 |succ k ih=>rw [fF];show (_++[_]).length=_;rw [gD,ih];rfl
def Cz (ah bJ:List Tx):(fQ ah bJ).length<=ah.length+1:=by unfold fQ;rw [gD];exact Nat.add_le_add_right (List.length_filter_le _ _) _
def CA (ah bJ:List Tx):0<(fQ ah bJ).length:=by unfold fQ;rw [gD];exact Nat.succ_pos _
def Gd (ah bJ:List Tx):fQ ah bJ=((ah.filter λ p=>!decide (p∈bJ)).map λ p=>p)++[aa8]:=by unfold fQ;rw [List.map_id']
def CB (av a7:List Tx):((a7.filter λ ξ=>true).map λ c=>decide (c∈av))=fM av a7:=by unfold fM;rw [List.filter_eq_self.mpr λ ξ ξ=>rfl]
def Ka (av a7:List Tx):((a7.zip (fM av a7)).filter λ c=>c.2).map (λ c=>c.1)=cu av a7:=by
 unfold fM cu;induction a7 with
 |nil=>rfl
 |cons a L ih=>
  rw [List.map_cons,List.zip_cons_cons];by_cases q:a∈av
  ·rw [List.filter_cons_of_pos (by simpa using q),List.filter_cons_of_pos (by simpa using q),List.map_cons,ih]
  ·rw [List.filter_cons_of_neg (by simpa using q),List.filter_cons_of_neg (by simpa using q),ih]
def CC (av a7:List Tx):(cu av a7).length<=a7.length:=List.length_filter_le _ _
def zm (av a7 bJ:List Tx):(c9 av a7 bJ).length<=bJ.length+a7.length:=by unfold c9;rw [gD];exact Nat.add_le_add_left (List.length_filter_le _ _) _
def Kc (av a7 bJ:List Tx):c9 av a7 bJ=bJ++((a7.filter λ p=>!decide (p∈cu av a7)).map λ c=>c):=by
 unfold c9;rw [List.map_id'];congr 1;refine List.filter_congr λ p hp=>?_;have:p∈cu av a7<->p∈av:=by unfold cu;rw [List.mem_filter];simp [hp]
 simp [this]
def zo [aaK α] {xs:List α} {x:α}:xs.map is++[is x]=(xs++[x]).map is:=by rw [List.map_append];rfl
def xq {fi:Tx} (h:fi∈aq.map (·.1)):mx (iB aq) fi=some (is (cE aq fi)):=by
 unfold mx cE;induction aq with
 |nil=>cases h
 |cons kv r ih=>
  show Option.map (·.2) (List.find? _ ((kv.1,is kv.2)::iB r))=_;by_cases e:kv.1=fi
  ·rw [List.find?_cons_of_pos (by simpa using e),List.find?_cons_of_pos (by simpa using e)];rfl
  ·rw [List.find?_cons_of_neg (by simpa using e),List.find?_cons_of_neg (by simpa using e)];refine ih ?_;rcases cF h with h|h
   ·exact absurd h.symm e
   ·exact h
def qp {xs:List Tx} {n:Int} (h:0<xs.length):0<=n.fmod (xs.length:Int)/\n.fmod (xs.length:Int)<xs.length/\xs[(n.fmod (xs.length:Int)).toNat]? =some (pick xs n):=by
 have h1:=Int.fmod_nonneg_of_pos n (b:=(xs.length:Int)) (by omega);have h2:=Int.fmod_lt_of_pos n (b:=(xs.length:Int)) (by omega);refine ⟨h1,h2,?_⟩;unfold pick;have:(n.fmod (xs.length:Int)).toNat<xs.length:=by omega
 rw [List.getD_eq_getElem?_getD,List.getElem?_eq_getElem this];rfl
def tX {xs:List Tx} {n:Int} (h:0<xs.length):pick xs n∈xs:=List.mem_of_getElem? (qp (n:=n) h).2.2
def zp {xs:List Int} (h:0<xs.length):0<=((i:Int)).fmod (xs.length:Int)/\((i:Int)).fmod (xs.length:Int)<xs.length/\xs[(((i:Int)).fmod (xs.length:Int)).toNat]? =some (numAt xs i):=by
 have h1:=Int.fmod_nonneg_of_pos (i:Int) (b:=(xs.length:Int)) (by omega);have h2:=Int.fmod_lt_of_pos (i:Int) (b:=(xs.length:Int)) (by omega);refine ⟨h1,h2,?_⟩;unfold numAt;have:(((i:Int)).fmod (xs.length:Int)).toNat<xs.length:=by omega
 rw [List.getD_eq_getElem?_getD,List.getElem?_eq_getElem this];rfl
def kids (ah:List Tx) (aq:List (Tx×Tx)) (x:Tx):List Tx:=ah.filter λ p=>!decide (p=aF)&&decide (cE aq p=x)
noncomputable def q9 (P H G:List Tx) (x:Tx):Int:=if x∈P then -2 else if x∈H then -1 else if x∈G then 0 else 1
structure Xy (ah:List Tx) (σ:bQ) (np:Tx->Int) (sc:Tx->List Tx):Prop where
 nn:(σ.es.map λ e=>e.nd.node).Nodup
 has:∀x,x∈ah<->∃e∈σ.es,e.nd.node=x
 val:∀e∈σ.es,e.nd.np=np e.nd.node/\e.nd.succ=sc e.nd.node
section
variable {sc:Tx->List Tx} {x:Tx} {P H:List Tx}
def Xy.congr (v:Xy ah σ np sc) (h:∀x∈ah,Lh x=np x):Xy ah σ Lh sc:=
 ⟨v.nn,v.has,λ e he=>⟨(v.val e he).1.trans (h _ ((v.has _).mpr ⟨e,he,rfl⟩)).symm,(v.val e he).2⟩⟩
def Xy.cz {k:Int->Int} {g:abp->abp} (v:Xy ah σ np sc) (h1:∀n,(g n).node=n.node) (h2:∀n,(g n).succ=n.succ) (h3:∀n,(g n).np=k n.np):Xy ah (σ.cz x g) (λ y=>if y=x then k (np y) else np y) sc:=by
 refine ⟨by rw [p6 h1 λ n ξ=>n];exact v.nn,λ y=>(v.has y).trans ⟨λ h=>yX h1 h,λ ⟨e,he,q⟩=>?_⟩,λ e' nQ=>?_⟩
 ·refine rW (l3 h1 he) λ iM h0 ξ h2 ξ=>?_;exact cV iM h0 (h2.symm.trans q)
 ·refine d5 (l3 h1 nQ) λ e he ξ hn hd ξ=>?_;refine cO (v.val e he) λ a b=>?_;rw [hn,hd];by_cases q:e.nd.node=x
  ·rw [if_pos q,if_pos q,h2,h3,a];exact ⟨rfl,b⟩
  ·rw [if_neg q,if_neg q];exact ⟨a,b⟩
def Xy.ent (v:Xy ah σ np sc) (h:x∈ah):∃e,jk σ x=some e/\e∈σ.es/\e.nd.node=x:=by
 refine aK ((v.has x).mp h) λ e he q=>?_;cases r:jk σ x with
 |none=>exact absurd (List.mem_map.mpr ⟨e,he,q⟩) (ze r)
 |some e'=>exact cV e' rfl (rN r)
def Xy.sH (v:Xy ah σ np sc) (h:x∈ah):sH σ x=np x:=by refine cZ (v.ent h) λ e q he hx=>?_;unfold Mine.sH;rw [q];exact (v.val e he).1.trans (by rw [hx])
def Xy.j1 (v:Xy ah σ np sc) (h:x∈ah):j1 σ x=sc x:=by refine cZ (v.ent h) λ e q he hx=>?_;unfold Mine.j1;rw [q];exact (v.val e he).2.trans (by rw [hx])
def Xy.bG {r:List Tx} (v:Xy ah σ np sc):Xy ah {σ with bG:=r} np sc:=⟨v.nn,v.has,v.val⟩
def Xy.fin {r:Int} (v:Xy ah σ np sc):Xy ah {σ with fin:=r} np sc:=⟨v.nn,v.has,v.val⟩
def Md:∀(ys:List Tx) (σ:bQ) (np:Tx->Int),Xy ah σ np sc->ys.Nodup->(∀y∈ys,y∈ah)->(∀y∈ys,np y=1)->
  Xy ah (dB σ ys) (λ z=>if z∈ys then 0 else np z) sc/\(dB σ ys).bG=σ.bG++ys/\(dB σ ys).out=σ.out/\(dB σ ys).fin=σ.fin:=by
 intro ys;induction ys with
 |nil=>intro σ np v _ _ _;exact iD (v.congr λ ξ ξ=>by simp) (by simp [dB]) rfl rfl
 |cons y ys ih=>
  intro σ np v hn hs h1;refine cO (List.nodup_cons.mp hn) λ n1 n2=>?_;have v1:Xy ah (σ.cz y fC) (λ z=>if z=y then np z - 1 else np z) sc:=v.cz (k:=λ i=>i - 1) (λ ξ=>rfl) (λ ξ=>rfl) (λ ξ=>rfl);have e:eP σ y={(σ.cz y fC) with bG:=σ.bG++[y]}:=by unfold eP;rw [v1.sH (hs y di)];simp only [if_pos,h1 y di,show (1:Int) - 1=0 from rfl]
  obtain ⟨a,b,c,d⟩:=ih (eP σ y) (λ z=>if z=y then np z - 1 else np z) (by rw [e];exact v1.bG) n2 (λ z hz=>hs z (Ym _ hz)) λ z hz=>by show (if z=y then np z - 1 else np z)=1;rw [if_neg λ q:z=y=>n1 (q▸hz)];exact h1 z (Ym _ hz)
  refine iD (a.congr λ z ξ=>?_) ?_ ?_ ?_
  ·by_cases q:z=y
   ·subst q;simp [h1 z di,n1]
   ·simp [q]
  ·show (dB (eP σ y) ys).bG=_;rw [b,e];simp
  ·show (dB (eP σ y) ys).out=_;rw [c,e];rfl
  ·show (dB (eP σ y) ys).fin=_;rw [d,e];rfl
def Kd (v:Xy ah σ np sc) (hx:x∈ah) (hn:(sc x).Nodup) (hs:∀y∈sc x,y∈ah) (h1:∀y∈sc x,np y=1) (Wd:x∉sc x):
  Xy ah (ja σ x) (λ z=>if z∈sc x then 0 else if z=x then -2 else np z) sc/\(ja σ x).bG=σ.bG++sc x/\(ja σ x).out=σ.out/\(ja σ x).fin=σ.fin+1:=by
 have v1:Xy ah (σ.cz x (gq (-2))) (λ z=>if z=x then -2 else np z) sc:=v.cz (k:=λ ξ=>-2) (λ ξ=>rfl) (λ ξ=>rfl) (λ ξ=>rfl);obtain ⟨a,b,c,d⟩:=Md (sc x) _ _ v1 hn hs λ y hy=>by show (if y=x then (-2:Int) else np y)=1;rw [if_neg λ q:y=x=>Wd (q▸hy)];exact h1 y hy
 unfold ja;rw [v.j1 hx];exact iD a.fin b c rfl
def Ke (L:List Tx) (σ:bQ) (np:Tx->Int) (v:Xy ah σ np sc):Xy ah (L.foldl (λ τ x=>τ.cz x (gq (-1))) σ) (λ z=>if z∈L then -1 else np z) sc:=by
 induction L generalizing σ np with
 |nil=>exact v.congr λ ξ ξ=>by simp
 |cons y L ih=>
  refine (ih _ _ (v.cz (x:=y) (k:=λ ξ=>-1) (g:=gq (-1)) (λ ξ=>rfl) (λ ξ=>rfl) (λ ξ=>rfl))).congr λ z ξ=>?_;by_cases q:z=y
  ·simp [q]
  ·simp [q]
structure Inv (ah:List Tx) (aq:List (Tx×Tx)) (σ:bQ) (P H G:List Tx):Prop where
 vw:Xy ah σ (q9 P H G) (kids ah aq)
 bG:σ.bG=G
 cnt:σ.out=σ.fin+H.length
 abB:P.Nodup
 ZI:H.Nodup
 abK:G.Nodup
 Kf:∀x∈P,x∉H
 Me:∀x∈P,x∉G
 Kg:∀x∈H,x∉G
 aas:∀x∈P,x∈ah
 Yk:∀x∈H,x∈ah
 Zf:∀x∈G,x∈ah
 up:∀x,x∈P\/x∈H\/x∈G->x≠aF->cE aq x∈P
def l4 {y:Tx}:y∈kids ah aq x<->y∈ah/\y≠aF/\cE aq y=x:=by unfold kids;rw [List.mem_filter];simp
def Hi (hp:ah.Nodup) (v:Inv ah aq σ P H G) (hx:x∈H):Inv ah aq (ja σ x) (P++[x]) (H.filter λ y=>!decide (y=x)) (G++kids ah aq x):=by
 have ZJ:x∉P:=λ m=>v.Kf x m hx;have Z0:x∉G:=v.Kg x hx;have Y4:∀y∈kids ah aq x,y∉P/\y∉H/\y∉G:=λ y hy=>by
  refine eU (l4.mp hy) λ ξ h2 h3=>?_;have a8:¬(y∈P\/y∈H\/y∈G):=λ m=>by have:=v.up y m h2;rw [h3] at this;exact ZJ this
  exact iJ (λ m=>a8 (.inl m)) (λ m=>a8 (.inr (.inl m))) (λ m=>a8 (.inr (.inr m)))
 have kx:x∉kids ah aq x:=λ m=>(Y4 x m).2.1 hx;have knd:(kids ah aq x).Nodup:=hp.filter _;obtain ⟨a,b,c,d⟩:=Kd v.vw (v.Yk x hx) knd (λ y hy=>(l4.mp hy).1) (λ y hy=>by refine eU (Y4 y hy) λ k1 k2 k3=>?_;simp [q9,k1,k2,k3]) kx
 have Ge:∀y,y∈H.filter (λ y=>!decide (y=x))<->y∈H/\y≠x:=λ y=>by rw [List.mem_filter];simp
 refine ⟨a.congr λ z hz=>?_,by rw [b,v.bG],?_,?_,v.ZI.filter _,?_,?_,?_,?_,?_,?_,?_,?_⟩
 ·unfold q9;by_cases q:z=x
  ·subst q;simp [kx]
  ·by_cases m:z∈kids ah aq x
   ·refine eU (Y4 z m) λ k1 k2 k3=>?_;simp [q,m,k1,k2]
   ·simp [q,m]
 ·rw [c,d,v.cnt];have e:(H.filter λ y=>!decide (y=x)).length+1=H.length:=by
   have h1:(H.erase x)=H.filter λ y=>!decide (y=x):=by
    rw [v.ZI.erase_eq_filter];refine List.filter_congr λ y ξ=>?_;by_cases q:y=x
    ·subst q;simp
    ·simp [q]
   rw [<-h1,List.length_erase_of_mem hx];have:=List.length_pos_of_mem hx;w_up
  w_up
 ·rw [List.nodup_append];exact ⟨v.abB,by simp,λ y hy z hz=>by rw [bj hz];exact λ q=>ZJ (q▸hy)⟩
 ·rw [List.nodup_append];exact iJ v.abK knd (λ y hy z hz q=>(Y4 z hz).2.2 (q▸hy))
 ·intro y hy m;refine cO ((Ge y).mp m) λ m1 m2=>?_;rcases bR hy with hy|hy
  ·exact v.Kf y hy m1
  ·exact m2 (bj hy)
 ·intro y hy m;rcases bR hy with hy|hy
  ·rcases bR m with m|m
   ·exact v.Me y hy m
   ·exact (Y4 y m).1 hy
  ·rw [bj hy] at m;rcases bR m with m|m
   ·exact Z0 m
   ·exact kx m
 ·intro y hy m;refine cO ((Ge y).mp hy) λ m1 m2=>?_;rcases bR m with m|m
  ·exact v.Kg y m1 m
  ·exact (Y4 y m).2.1 m1
 ·intro y hy;rcases bR hy with hy|hy
  ·exact v.aas y hy
  ·rw [bj hy];exact v.Yk x hx
 ·intro y hy;exact v.Yk y ((Ge y).mp hy).1
 ·intro y hy;rcases bR hy with hy|hy
  ·exact v.Zf y hy
  ·exact (l4.mp hy).1
 ·intro y hy hs;rcases hy with hy|hy|hy
  ·rcases bR hy with hy|hy
   ·exact bL _ (v.up y (.inl hy) hs)
   ·rw [bj hy];rw [bj hy] at hs;exact bL _ (v.up x (.inr (.inl hx)) hs)
  ·exact bL _ (v.up y (.inr (.inl ((Ge y).mp hy).1)) hs)
  ·rcases bR hy with hy|hy
   ·exact bL _ (v.up y (.inr (.inr hy)) hs)
   ·rw [(l4.mp hy).2.2];exact bC _ (List.mem_singleton.mpr rfl)
def sV (hp:ah.Nodup):∀(xs:List Tx) (σ:bQ) (P H G:List Tx),Inv ah aq σ P H G->(∀x∈xs,x∈H)->xs.Nodup->Inv ah aq (eQ σ xs) (P++xs) (H.filter λ y=>!decide (y∈xs)) (G++xs.flatMap (kids ah aq)):=by
 intro xs;induction xs with
 |nil=>
  intro σ P H G v _ _;have e:(H.filter λ y=>!decide (y∈([]:List Tx)))=H:=List.filter_eq_self.mpr λ y ξ=>by simp
  rw [e,List.append_nil,List.flatMap_nil,List.append_nil];exact v
 |cons x xs ih=>
  intro σ P H G v hs hn;refine cO (List.nodup_cons.mp hn) λ n1 n2=>?_;have w:=Hi hp v (hs x di);have:=ih _ _ _ _ w (λ y hy=>List.mem_filter.mpr ⟨hs y (Ym _ hy),by simpa using λ q:y=x=>n1 (q▸hy)⟩) n2;rw [List.append_assoc,List.append_assoc,List.filter_filter] at this;have e:(H.filter λ y=>!decide (y∈x::xs))=H.filter λ y=>(!decide (y∈xs))&&!decide (y=x):=List.filter_congr λ y ξ=>by simp [Bool.and_comm]
  rw [e];exact this
def rQ (v:Inv ah aq σ P H G):Inv ah aq (dF σ) P (H++G) []:=by
 refine jG (f7 (σ:=σ) σ.bG.length) λ b1 b2 XR abw YR YY aae=>?_;have a:=Ke (σ.bG.take σ.bG.length) σ _ v.vw;rw [List.take_length,v.bG] at a;refine ⟨?_,rfl,?_,v.abB,?_,List.nodup_nil,?_,(λ x ξ m=>(nomatch m)),(λ x ξ m=>(nomatch m)),v.aas,?_,(λ x m=>(nomatch m)),?_⟩
 ·have a':Xy ah (dq σ σ.bG.length) (λ z=>if z∈G then -1 else q9 P H G z) (kids ah aq):=by unfold dq;rw [List.take_length,v.bG];exact a
  have this:Xy ah (dF σ) (λ z=>if z∈G then -1 else q9 P H G z) (kids ah aq):=⟨a'.nn,a'.has,a'.val⟩;refine this.congr λ z ξ=>?_;unfold q9;by_cases m:z∈G
  ·have h1:z∉P:=λ q=>v.Me z q m;simp [m,h1]
  ·simp [m]
 ·show σ.out+σ.bG.length=(dq σ σ.bG.length).fin+_;rw [aae,v.cnt,v.bG,gD];w_up
 ·rw [List.nodup_append];exact iJ v.ZI v.abK (λ y hy z hz q=>v.Kg y hy (q▸hz))
 ·intro y hy m;rcases bR m with m|m
  ·exact v.Kf y hy m
  ·exact v.Me y hy m
 ·intro y hy;rcases bR hy with hy|hy
  ·exact v.Yk y hy
  ·exact v.Zf y hy
 ·intro y hy hs;refine v.up y ?_ hs;rcases hy with hy|hy|hy
  ·exact .inl hy
  ·exact (bR hy).elim (λ m=>.inr (.inl m)) λ m=>.inr (.inr m)
  ·cases hy
def Hj {n:Int}:∀x∈df cC bJ n,x∈bJ:=λ x m=>by
 unfold df at m;split at m
 ·rename_i h;rw [bj m];exact tX (List.length_pos_iff.mpr h.2)
 ·cases m
def CD {n:Int} (abK:a7.Nodup):(cu av a7++df (cu av a7) (c9 av a7 bJ) n).Nodup/\∀x∈cu av a7++df (cu av a7) (c9 av a7 bJ) n,x∈bJ++a7:=by
 have sub:∀x∈cu av a7++df (cu av a7) (c9 av a7 bJ) n,x∈bJ++a7:=λ x m=>by
  rcases bR m with m|m
  ·exact bC _ (aa7 m).1
  ·have:=Hj x m;rcases bR this with m|m
   ·exact bL _ m
   ·exact bC _ (aa7 m).1
 refine ⟨?_,sub⟩;unfold df;split
 ·rename_i h;rw [h.1];simp
 ·rw [List.append_nil];exact abK.filter _
def Hl (hp:ah.Nodup) (v:Inv ah aq σ st.past st.hand st.given):
  let cC:=cu av st.given
  let gx:=df cC (c9 av st.given st.hand) (numAt ae i)
  Inv ah aq (eQ (dF σ) (cC++gx)) (lj ah aq av ae st i).past (lj ah aq av ae st i).hand (lj ah aq av ae st i).given:=by
 intro cC gx;refine cO (CD (av:=av) (bJ:=st.hand) (n:=numAt ae i) v.abK) λ h1 h2=>?_;have:=sV hp (cC++gx) _ _ _ _ (rQ v) h2 h1;rw [List.nil_append,<-List.append_assoc] at this;have e1:((st.hand++st.given).filter λ y=>!decide (y∈cC++gx))=(c9 av st.given st.hand).filter λ p=>!decide (p∈gx):=by
  unfold c9;rw [List.filter_append,List.filter_append,List.filter_filter];congr 1
  ·refine List.filter_congr λ y hy=>?_;have:y∉cC:=λ m=>v.Kg y hy (aa7 m).1;simp [this]
  ·refine List.filter_congr λ y hy=>?_;have:y∈cC<->y∈av:=by show y∈cu av st.given<->_;unfold cu;rw [List.mem_filter];simp [hy]
   simp [this,Bool.and_comm]
 have e2:(cC++gx).flatMap (kids ah aq)=nextOf ah aq (cC++gx):=by unfold nextOf ib;rw [List.filter_eq_self.mpr λ ξ ξ=>rfl];refine congrArg (λ f=>List.flatMap f (cC++gx)) (funext λ one=>?_);rw [List.map_id'];unfold kids;refine List.filter_congr λ y ξ=>by simp
 rw [e1,e2] at this;exact this
def qq (v:Inv ah aq σ P H G):(decide (σ.fin<σ.out)||!σ.bG.isEmpty)=(!decide (G=[])||!decide (H=[])):=by rw [v.bG,v.cnt];cases H<;>cases G<;>simp<;>w_up
def CE {n:Int} (hz:aa8∉ah) (v:Inv ah aq σ st.past st.hand st.given) (ha:b7∈fQ ah st.hand):
  (∀e,jk σ b7=some e->0<=e.nd.np\/e.nd.np=-2)/\dY σ b7=kB++b7++nY++wordsOf st.past b7:=by
 have fg:b7∉st.hand/\(b7∈ah\/b7=aa8):=by
  unfold fQ at ha;rcases bR ha with m|m
  ·refine cO (aa7 m) λ a b=>?_;exact ⟨by simpa using b,.inl a⟩
  ·have:=bj m;rw [this];exact ⟨λ m=>hz (v.Yk _ m),.inr rfl⟩
 have PU:∀a b c:Tx,eo (eo ⟨"node ".toList⟩ (nz a)) ⟨' '::'w'::'a'::'s'::' '::b.cs⟩=kB++a++nY++b:=λ a b c=>by show (⟨_⟩:Tx)=⟨_⟩;congr 1;show ("node ".toList++('\''::a.cs++['\'']))++_=(['n','o','d','e',' ','\'']++a.cs)++['\'',' ','w','a','s',' ']++b.cs;simp [show "node ".toList=['n','o','d','e',' '] from by decide]
 rcases fg.2 with hm|rfl
 ·have We:b7≠aa8:=λ q=>hz (q▸hm);refine cZ (v.vw.ent hm) λ e q he hx=>?_;have hv:=(v.vw.val e he).1;rw [hx] at hv;unfold q9 at hv;rw [if_neg fg.1] at hv;have hw:wordsOf st.past b7=if b7∈st.past then qo else Cx:=if_neg We
  refine ⟨λ e' q'=>?_,?_⟩
  ·rw [q] at q';cases q';by_cases p:b7∈st.past
   ·rw [if_pos p] at hv;exact .inr hv
   ·rw [if_neg p] at hv;refine .inl ?_;rw [hv];split<;>w_up
  ·unfold dY nV;rw [q,hw];by_cases p:b7∈st.past
   ·rw [if_pos p] at hv⊢;simp only [hv];exact PU b7 qo qo
   ·rw [if_neg p] at hv⊢;have:(0:Int)<=e.nd.np:=by rw [hv];split<;>w_up
    simp only [if_pos this];exact PU b7 Cx qo
 ·have hn:jk σ aa8=none:=by
   cases r:jk σ aa8 with
   |none=>rfl
   |some e=>
    refine cO (rN r) λ he hx=>?_;exact absurd ((v.vw.has aa8).mpr ⟨e,he,hx⟩) hz
  refine ⟨λ e q=>(by rw [hn] at q;cases q),?_⟩;unfold dY nV;rw [hn,show wordsOf st.past aa8=Cy from if_pos rfl];exact PU aa8 Cy qo
end
def CF {x:Value} {R:Result->Shared->Prop} (hb:s.heap.get? b=some (methodObj (.ref f) x)) (hq:codeAny (model XX w) A (.call (.ref f) ⟨x::vs,[]⟩) R s):codeAny (model XX w) A (.call (.ref b) ⟨vs,[]⟩) R s:=by refine codeAny_of_tree ?_;show wpAny _ A.in1 (callAny (.ref b) ⟨vs,[]⟩) _ _ _;unfold callAny;refine Z4 (wpAny_load hb ?_);exact X5 ⟨rfl,hq⟩
def CG {x:Addr} {Q:Value->Shared->Prop} (aaf:kJ C) (X:(Mine.KK w.params).In s.heap) (I:jC s.heap C x dx m) (hf:findIn (Mine.KK w.params) (.ref C) name=some (some (.ref f))) (ht:typeIn (Mine.KK w.params) (.ref f)=some (.type "function"))
  (hg:specialIn (Mine.KK w.params) (.ref f) "__get__"=some (some (.builtin "function.__get__"))) (hd:takesIn (Mine.KK w.params) (.ref f)=some false) (hc:copiedNames.contains name=false) (hm:m name=none)
  (q:∀tk,Q (.ref s.heap.objs.size) {s with heap:=s.heap.push (methodObj (.ref f) (.ref x)),toks:=tk}):wpAny (model XX w) A (getAttr (.ref x) name expr) Q E s:=by
 refine cZ I.uZ λ od e aa3 lk=>?_;have PV:findObj (Mine.KK w.params) C (some od) name=some (.bind (.builtin "function.__get__") (.ref f)):=by
  refine aK (any_some aaf.hd) λ cd h1 h2=>?_;unfold findObj;have ho:PySem.W.ownOf cd (some od) name=some none:=by unfold PySem.W.ownOf;rw [if_pos h2];show lookIn name od=_;rw [lk,hm]
  rw [h1,Option.bind_some,hf,Option.bind_some];show (specialIn (Mine.KK w.params) (.ref f) "__get__").bind _=_;rw [hg,Option.bind_some];show (takesIn (Mine.KK w.params) (.ref f)).bind _=_;rw [hd,Option.bind_some];show (PySem.W.ownOf cd (some od) name).bind _=_;rw [ho,Option.bind_some];show (if (copiedNames.contains name&&_)=true then _ else _)=_;rw [hc];rfl
 refine get_bind X aa3 aaf.ga PV aaf.qW (wpAny_call (PySem.W.fn_get (s:={s with toks:=s.toks+1}) X ht ?_));exact handed_on rfl (q _)
def Kh (hf:findIn (Mine.KK w.params) (.ref 179) name=some (some (.ref f))) (ht:typeIn (Mine.KK w.params) (.ref f)=some (.type "function")) (hn:name∉l0):GM A (gI σ) name (.ref f):=λ s v pl aaF E p T q=>by refine cO p λ cX X=>?_;subst cX;exact oH T.k X hf ht hn q
def xr {R:Addr} (hR:σ.R=some R) (abx:cy 1 A) (hz:σ.bG.length<=1000):fJ A (.ref 148) [gI σ] (is (decide (σ.fin<σ.out)||!σ.bG.isEmpty)):=by
 have hl:=br;refine ju (n:=0) (ρ:=[("self",gI σ)]) (o:=MT) abl rfl aaT ⟨147,MS,_,_,rfl,by rfl,rfl,rfl⟩ abx (mC λ a=>by rfl) ["self"] rfl abd abd ?_;intro aw az aa S s A' aY f;refine f6 f (b:=false) ?_ nD λ ξ aj f=>?_
 ·have hr:q4 σ.R= .ref R:=by rw [hR];rfl
  exact bg (aV:=lit (.ref R)) (a6:=is ()) ((p7 af).imp λ ξ ξ q=>by rw [hr] at q;exact q) ik (mZ abl) abl
 refine bf (dO f (P:=is (decide (σ.fin<σ.out)||!σ.bG.isEmpty)) ?_ λ v aA f' p=>f'.gc (F:=[]) p);refine Dl (P:=is (decide (σ.fin<σ.out))) (b:=decide (σ.fin<σ.out)) (r3 (OT af) (OS af) Dh) gk (λ h=>by rw [h];exact dp) λ h=>?_;rw [h];exact ba (f:=.type "bool") (YN:=[is σ.bG]) aQ (au (FJ hR af) aB) aR trivial (yc (by w_up))
def rR {R:Addr} {b:Bool} (hR:σ.R=some R) (abx:cy 1 A) (hz:σ.bG.length<=1000) (hb:(decide (σ.fin<σ.out)||!σ.bG.isEmpty)=b) (hv:Ev A sc ρ (.Name z YA) (gI σ))
  (he:∀aa,∃pl:Sem Bool,eval (.Call (.Attribute (.Name z YA) "is_active" ap) [] [] ar) aa=(do
   let ov<-eval (.Name z YA) aa
   standAt ap.atName
   let (f,first)<-holding [ov] (getMethod ov "is_active" pl)
   callWith ar f first (backTo ar (starEach [] aa)) [])):Ev A sc ρ (.Call (.Attribute (.Name z YA) "is_active" ap) [] [] ar) (is b):=by
 subst hb;exact g4 (YN:=[]) (f:=.ref 148) hv (Kh abl abl bH) aB aR ⟨_,_,by rfl,rfl⟩ (xr hR abx hz) he
def qO (sc:ly) (ρ:eV) (aa:Env) (A:Around) (q aa9:Addr) (self:Value) (e:Expr) (ar:Pos) (Q E:Value->Shared->Prop) (xs:List Tx):Prop:=∀{S:List Addr} {s:Shared} (he:Ev A sc ρ e (is xs)) (c:XK sc ρ S aa s.heap) (hz:xs.length<=1000) (hq:s.heap.get? q=some (methodObj (.ref aa9) self)) (hk:vh (.ref aa9)) (h:∀vs aj,Keeps s aj->AllP (hide S aj.heap) (xs.map is) vs->codeAny (model XX w) A (.call (.ref aa9) ⟨self::vs,[]⟩) (λ r s'=>match r with| .ok (.ret v)=>Q v s'| .ok _=>False| .error e=>E e s') aj),wpAny (model XX w) A (callWith ar (.ref q) [] [(true,do let v<-eval e aa;standAt ar;pure v)] []) Q E s
namespace cw_star_v
def aau:=ev (U (U (U (U (U (U (U (U (U (U (U qO)))))))))))
def Ti:=aau.1.1.1.1.1.1.1.1.1.1.1
def EC:=aau.1.1.1.1.1.1.1.1.1.1.2
def d7:=aau.1.1.1.1.1.1.1.1.1.2
def abN:=aau.1.1.1.1.1.1.1.1.2
def abH:=aau.1.1.1.1.1.1.1.2
def Mf:=aau.1.1.1.1.1.1.2
def EJ:=aau.1.1.1.1.1.2
def abr:=aau.1.1.1.1.2
def Tj:=aau.1.1.1.2
def XD:=aau.1.1.2
def aay:=aau.1.2
def lV:=aau.2
def Zk:qO Ti EC d7 abN abH Mf EJ abr Tj XD aay lV:=by
 intro S s he c hz hq hk h;have hl:=br;unfold callWith;refine Z4 (XG ?_);unfold evalArgs;refine Z4 (Z4 (he.use c λ v aj k₁ c₁ aZ=>Z4 (ig (X5 (Z4 (X5 ?_))))));refine XG ?_;refine bw (is_list.mp aZ) λ a vs n c7 ha pa=>?_;subst c7;have e1:=pa.length;rw [Array.length_toList,lm] at e1;have hg:aj.heap.get? a=some _:=ao _ _ ha;rw [if_pos abl];refine Z4 (X5 (Z4 ?_));refine Z4 ?_;unfold notIterableAtAll;refine Z4 (wpAny_specialOf (T:="list") ⟨_,hg,rfl⟩ slot_list_iter.lookup ?_);refine X5 ?_;rw [if_neg nD];refine XG ?_;refine wpAny_collect_seq a (T:="list") (.inl rfl) hg rfl rfl (λ h' dE=>?_) (by rw [e1];w_up);refine X5 (Z4 (ig ?_));have c₂:XK Ti EC S d7 h':=c₁.mono dE;have cJ:∀{t:Sem Value} {s:Shared},wpAny (model XX w) abN t XD aay s->wpAny (model XX w) abN (t>>=λ r=>holding [r] point>>=λ ξ=>pure r) XD aay s:=
  λ ht=>Z4 (Zh ht (λ r aA hr=>Z4 (XG (wpAny_point (X5 hr)))) dp)
 have go:=h _ {aj with heap:=h'} (aL k₁ ⟨h',aj.toks,rfl,dE⟩) (pa.mono (aJ dE));have hc:=hk.ok (c₂.top.mono ao);refine bu hc λ o fd ho hd=>?_;have Bd:h'.get? abH=some (methodObj (.ref Mf) EJ):=dE _ _ (kle k₁ _ _ hq);refine Z4 (m:=keeperOf (.ref abH)) ?_;unfold keeperOf;refine Z4 (wpAny_load (s:={aj with heap:=h'}) Bd ?_);show wpAny _ _ (if (methodObj (.ref Mf) EJ).cls != .type "method" then _ else _) _ _ _;rw [if_neg (show ¬((Value.type "method"!=Value.type "method")=true) by decide)];show wpAny _ _ (load Mf>>=_) _ _ _;refine Z4 (wpAny_load (s:={aj with heap:=h'}) ho ?_);rw [hd];refine X5 ?_;exact cJ (wpAny_operateT (wpAny_call (CF (s:={aj with heap:=h'}) Bd go)))
end cw_star_v
def Kl {q:Addr} {self:Value} {Q:Value->Shared->Prop} {xs:List Tx}:qO sc ρ aa A q aa9 self e ar Q E xs:=s7 (U (U (U (U (U (U (U (U (U (U (U qO))))))))))) cw_star_v.Zk (((((((((((sc,ρ),aa),A),q),aa9),self),e),ar),Q),E),xs)
def EK (f:YQ sc ak F aw az aa ρ J S s) (hz:Ev A sc ρ (.Name z YA) (lit (.ref D))) (L:yH J aa_ D YN (YN++[P])) (he:∀aj,YQ sc ak F aw az aa ρ J S aj->wpAny (model XX w) A (eval aS aa) (End S P aj) dj aj) (hsz:YN.length<=sizeLine) (hp:eT [aS])
  (gP:∀aa:Env,aa.scope.kind= .function->aa.scope.names=sc->swapsWith (.Call (.Attribute (.Name z YA) "append" bE) [aS] [] be) none ar.line aa=pure false)
  (oz:∀aa,∃pl:Sem Bool,eval (.Call (.Attribute (.Name z YA) "append" bE) [aS] [] be) aa=(do
   let ov<-eval (.Name z YA) aa
   standAt bE.atName
   let (f,first)<-holding [ov] (getMethod ov "append" pl)
   callWith be f first (backTo be (starEach [aS] aa)) []))
  (mw:∀aa,starEach [aS] aa=(false,eval aS aa)::starEach [] aa)
  (k:∀s',YQ sc ak F aw az aa ρ aa_ S s'->wpAny (model XX w) A (execs aD aa) Q E s'):wpAny (model XX w) A (execs (.Expr (.Call (.Attribute (.Name z YA) "append" bE) [aS] [] be) ar::aD) aa) Q E s:=by
 refine YF ?_;rw [exec_Expr aa _ ar (iz f.cx) (gP aa f.cx.kind f.cx.names)];refine Z4 (ig (Z4 ?_));refine aM (oz aa) λ pl e=>?_;rw [e];refine Z4 (hz.use f.cx λ v aj k₁ c₁ aZ=>?_);rw [show v= .ref D from aZ];have bN:=f.keep k₁;refine bu (L.get bN.jp) λ vs m hl ξ=>?_;refine Z4 (ig (Z4 (XG (getMethod_builtin ⟨_,hl,rfl⟩ PySem.F.plainAttrs_list PySem.F.slot_list_append PySem.F.type_list_append (λ a q=>by cases q;exact ⟨_,hl,rfl⟩) ?_))));refine eg (hp aa be) ?_;refine j7 (he:=mw aa) (Zh (he aj bN) (λ u aA q=>wpAny_items_nil ⟨trivial,?_⟩) λ ξ ξ q=>q.elim);refine cO q λ k₂ cG=>?_;have bh:=bN.keep k₂;refine bu (L.get bh.jp) λ DH m₂ vQ vR=>?_;have e1:=vR.length;rw [Array.length_toList] at e1;refine wpAny_list_append_plain (hsz:=by rw [e1];exact hsz) ⟨m₂,vQ⟩ λ h' eF gA=>?_;refine aM eF λ m' eF=>?_;rw [dropValue_plain λ ξ q=>by cases q];refine X5 ?_;have e9:=(bh.aar D L.mem).1;have dS:XN (hide S aA.heap) (hide S h'):=b5 λ b o nb e=>(gA.2 b λ q=>nb (q▸e9)).trans e;refine k _ (bh.mut (aa_:=aa_) (tk:=aA.toks) L.mem gA ⟨_,eF⟩ (L.set dS ao ao (λ b o nb e=>(gA.2 b nb).trans e) bh.jp ⟨_,_,eF,?_⟩) L.fp);rw [Array.toList_push];exact (vR.mono dS).append ⟨P.mono dS cG,trivial⟩
def YQ.PW {g:Addr} (f:YQ sc ak F aw az aa ρ (K.and (b8 σ)) S s) (j0:∀b∈σ.all,b∉K.fp) (iP:σ'.all=σ.all) (op:LJ A g σ σ' YN P) (p:AllP (hide S s.heap) (lit (.ref σ.D)::YN) vs)
  (k:∀v s',YQ sc ak F aw az aa ρ (K.and (b8 σ')) S s'->XN (hide S s.heap) (hide S s'.heap)->P.p (hide S s'.heap) v->Y9 v s'):wpAny (model XX w) A (call (.ref g) vs []) Y9 E s:=by
 have hS:∀b∈σ.all,b∈S:=λ b m=>(f.aar b (bC _ m)).1;refine Zh (op S s vs f.cx.top f.cx.b4 hS f.jp.2 p) (λ v s' q=>?_) λ ξ ξ q=>q.elim;refine eU q λ aaH X' pv=>?_;refine cS aaH.same λ h' tk il=>?_;subst il;have le:=iZ (S:=S) (N:=[]) hS aaH.keep (λ b m=>nomatch m);exact k v _ (f.step (N:=[]) (D:=σ.all) (aa_:=K.and (b8 σ')) (λ b m=>bC _ m) aaH.keep (λ b m=>let ⟨o,e⟩:=f.cx.b4 b (hS b m);aaH.live b o e) (λ b m=>nomatch m) (λ b m=>nomatch m)
  ⟨K.st le ao ao (λ b m o e=>aaH.keep b o (λ q=>j0 b q m) e) f.jp.1,X'⟩ λ b m=>by
   rcases bR m with m|m
   ·exact .inl (bL _ m)
   ·exact .inl (bC _ (show b∈σ.all by rw [<-iP];exact m))) le pv
def zq {aE:List Expr} {g:Addr} (f:YQ sc ak F aw az aa ρ (K.and (b8 σ)) S s) (j0:∀b∈σ.all,b∉K.fp) (iP:σ'.all=σ.all) (hz:Ev A sc ρ (.Name z YA) (lit (.ref σ.D)))
  (hf:findIn (Mine.KK w.params) (.ref 179) name=some (some (.ref g))) (ht:typeIn (Mine.KK w.params) (.ref g)=some (.type "function")) (hk:vh (.ref g)) (hn:name∉l0) (ha:nE A sc ρ aE YN) (hp:eT aE)
  (he:∃pl:Sem Bool,eval (.Call (.Attribute (.Name z YA) name ap) aE [] ar) aa=(do
   let ov<-eval (.Name z YA) aa
   standAt ap.atName
   let (f,first)<-holding [ov] (getMethod ov name pl)
   callWith ar f first (backTo ar (starEach aE aa)) []))
  (op:LJ A g σ σ' YN P)
  (k:∀v s',YQ sc ak F aw az aa ρ (K.and (b8 σ')) S s'->XN (hide S s.heap) (hide S s'.heap)->P.p (hide S s'.heap) v->Y9 v s'):wpAny (model XX w) A (eval (.Call (.Attribute (.Name z YA) name ap) aE [] ar) aa) Y9 E s:=by
 refine eG he (hz.use f.cx λ v aj k₁ c₁ aZ=>λ pl=>?_);rw [show v= .ref σ.D from aZ];have bN:=f.keep k₁;refine oH (f:=g) (bN.cx.top.k.keeps ao) bN.jp.2 hf ht hn ?_;refine eg (hp aa ar) (Zh (ha S aa ar aj c₁) (λ vs aA q=>⟨hk.ok ((c₁.mono (kle q.1)).top.mono ao),?_⟩) eY);have bh:=bN.keep q.1;exact bh.PW j0 iP op ⟨rfl,q.2⟩ λ v s' f le pv=>k v s' f ((aJ (kle (aL k₁ q.1))).trans le) pv
noncomputable def rd (x dx N:Addr):bQ:=⟨x,dx,N,none,[],[],0,0⟩
def zr {x N:Addr} (m:b∈(rd x dx N).all):b∈[x,dx,N]:=by simpa [rd,bQ.all,bQ.base] using m
def YQ.live (f:YQ sc ak F aw az aa ρ J S s):∀b∈J.fp,∃o,s.heap.get? b=some o:=λ b m=>f.cx.b4 b (f.aar b m).1
def rS (f:YQ sc ak F aw az aa ρ J S s) (h:s.heap.get? b=none):b∉J.fp:=λ m=>by refine aM (f.live b m) λ o e=>?_;rw [h] at e;cases e
def AK {np:Pos} (abx:cy 2 A) (f:YQ sc ak F aw az aa ρ J S s) (hg:Ev A sc ρ (.Name nm np) (lit (.ref 179))) (hx:cw ak sc z=true)
  (hs:∀aa:Env,aa.scope.kind= .function->aa.scope.names=sc->swapsWith (.Call (.Name nm np) [] [] be) (some (.Name z YA)) ar.line aa=pure false)
  (k:∀x dx N s',(∀b∈(rd x dx N).all,b∉J.fp)->YQ sc ak F aw az aa ((z,lit (.ref x))::ρ) (J.and (b8 (rd x dx N))) ([x,dx,N]++S) s'->wpAny (model XX w) A (execs aD aa) Q E s'):
  wpAny (model XX w) A (execs (.Assign [.Name z YA] (.Call (.Name nm np) [] [] be) ar::aD) aa) Q E s:=by
 refine YF (wpAny_Assign_Name (hs:=hs aa f.cx.kind f.cx.names) ?_);show wpAny _ A (do callWith _ (<-eval (.Name nm _) aa) [] (backTo _ (starEach [] aa)) []) _ _ s;refine Z4 (hg.use f.cx λ v aj k₁ c₁ aZ=>?_);rw [show v= .ref 179 from aZ];refine FG abl Jb (wpAny_items_nil ⟨c₁.top.k.keeps ao,?_⟩);refine Zh (El (S:=S) abx c₁.top c₁.b4) (λ v aA q=>?_) eY;obtain ⟨c7,x,dx,N,xd,hn,X⟩:=q;refine bu c7 λ dJ CH JR k₂=>?_;subst JR;subst xd;have f:=f.keep k₁;have jz:∀b∈(rd x dx N).all,b∉J.fp:=λ b m=>rS f (hn b (zr m));have Tl:∀b∈[x,dx,N],b∈(rd x dx N).all:=λ b m=>by simpa [rd,bQ.all,bQ.base] using m
 have f:=f.step (D:=[]) (N:=[x,dx,N]) (aa_:=J.and (b8 (rd x dx N))) (tk:=CH) (λ b m=>nomatch m) (λ b o ξ e=>k₂ b o e) (λ b m=>nomatch m) hn (λ b m=>qJ X b (Tl b m))
  ⟨J.st (dH k₂ λ b m=>(bR m).elim (λ m=>.inr (hn b m)) λ m=>.inl m) ao ao (λ b ξ o e=>k₂ _ _ e) f.jp,X⟩ λ b m=>by
   rcases bR m with m|m
   ·exact .inl m
   ·exact .inr (zr m)
 exact f.store hx (P:=lit (.ref x)) rfl λ s' f=>k x dx N s' jz f
def Km {aE:List Expr} {x:Tx} (abx:cy 4 A) (hR:σ.R=none) (hz:σ.es.length<=500) (x7:ps.length<=100) (Bm:∀n∈σ.pl,n.succ.length<=500)
  (f:YQ sc ak F aw az aa ρ (K.and (b8 σ)) S s) (j0:∀b∈σ.all,b∉K.fp) (hv:Ev A sc ρ (.Name z YA) (lit (.ref σ.D))) (ha:nE A sc ρ aE (is x::ps.map is)) (hp:eT aE)
  (gP:∀aa:Env,aa.scope.kind= .function->aa.scope.names=sc->swapsWith (.Call (.Attribute (.Name z YA) "add" ap) aE [] be) none ar.line aa=pure false)
  (he:∃pl:Sem Bool,eval (.Call (.Attribute (.Name z YA) "add" ap) aE [] be) aa=(do
   let ov<-eval (.Name z YA) aa
   standAt ap.atName
   let (f,first)<-holding [ov] (getMethod ov "add" pl)
   callWith be f first (backTo be (starEach aE aa)) []))
  (k:∀σ' S' s',jE σ σ'->σ'.pl=sL σ.pl x ps->(∀b∈S,b∈S')->(∀b∈σ'.all,b∈σ.all\/s.heap.get? b=none)->(∀b∈σ'.all,b∉K.fp)->
   YQ sc ak F aw az aa ρ (K.and (b8 σ')) S' s'->wpAny (model XX w) A (execs aD aa) Q E s'):
  wpAny (model XX w) A (execs (.Expr (.Call (.Attribute (.Name z YA) "add" ap) aE [] be) ar::aD) aa) Q E s:=by
 refine jW f.cx gP (eG he (hv.use f.cx λ v aj k₁ c₁ aZ=>λ pl=>?_));rw [show v= .ref σ.D from aZ];have bN:=f.keep k₁;refine oH (f:=129) (bN.cx.top.k.keeps ao) bN.jp.2 abl abl bH ?_;refine eg (hp aa be) (Zh (ha S aa be aj c₁) (λ vs aA q=>⟨⟨_,_,ao _ _ ((c₁.mono (kle q.1)).top.k 129 _ abl),rfl⟩,?_⟩) eY);have bh:=bN.keep q.1;have hS:∀b∈σ.all,b∈S:=λ b m=>(f.aar b (bC _ m)).1;refine Zh (LU (x:=x) (ps:=ps) abx hR hz x7 Bm bh.cx.top bh.cx.b4 hS bh.jp.2 ⟨rfl,q.2⟩) (λ v aH tZ=>?_) eY;obtain ⟨σ',hB,g8,rfl,aaH,X',fv⟩:=tZ;have vo:∀b∈σ'.all,b∈σ.all\/s.heap.get? b=none:=λ b m=>(fv b m).imp id λ z=>by
  cases e:s.heap.get? b with
  |none=>rfl
  |some o=>rw [kle (aL k₁ q.1) _ _ e] at z;cases z
 refine cZ (bh.NT j0 aaH X' fv) λ S' h1 h2 dC=>?_;exact ⟨(λ a e=>by cases e),k σ' S' aH hB g8 h1 vo (λ b m=>(fv b m).elim (j0 b) λ z q=>rS bh z (bL _ q)) dC⟩
def Mg (abx:cy 2 A) (hA:A.frames=some (aa::aT)) (fv:aa.frame=some aa.locals) (abF:iQ aT os) (mK:∀b∈σ.all,b∉dh os) (xX:(σ.es.map λ e=>e.nd.node).Nodup)
  (xg:∀e∈σ.es,∀y∈e.nd.succ,Yb e.nd.node<Yb y/\∃e'∈σ.es,e'.nd.node=y) (hR:σ.R=none) (hz:σ.es.length<=800)
  (f:YQ sc ak F aw az aa ρ ((bK os).and (b8 σ)) S s) (hv:Ev A sc ρ (.Name z YA) (lit (.ref σ.D)))
  (gP:∀aa:Env,aa.scope.kind= .function->aa.scope.names=sc->swapsWith (.Call (.Attribute (.Name z YA) "prepare" ap) [] [] be) none ar.line aa=pure false)
  (he:∃pl:Sem Bool,eval (.Call (.Attribute (.Name z YA) "prepare" ap) [] [] be) aa=(do
   let ov<-eval (.Name z YA) aa
   standAt ap.atName
   let (f,first)<-holding [ov] (getMethod ov "prepare" pl)
   callWith be f first (backTo be (starEach [] aa)) []))
  (k:∀R S' s',(∀b∈S,b∈S')->(∀b∈(gv σ R).all,b∉dh os)->
   YQ sc ak F aw az aa ρ ((bK os).and (b8 (gv σ R))) S' s'->wpAny (model XX w) A (execs aD aa) Q E s'):
  wpAny (model XX w) A (execs (.Expr (.Call (.Attribute (.Name z YA) "prepare" ap) [] [] be) ar::aD) aa) Q E s:=by
 refine jW f.cx gP (eG he (hv.use f.cx λ v aj k₁ c₁ aZ=>λ pl=>?_));rw [show v= .ref σ.D from aZ];have f:=f.keep k₁;refine oH (f:=134) (f.cx.top.k.keeps ao) f.jp.2 abl abl bH ?_;refine eg abl (wpAny_items_nil ⟨⟨_,_,ao _ _ (f.cx.top.k 134 _ abl),rfl⟩,?_⟩);refine aK f.nU λ o ho wY=>?_;have hS:∀b∈σ.all,b∈S:=λ b m=>(f.aar b (bC _ m)).1;have L9:∀b∈dh os,b∈S:=λ b m=>(f.aar b (bL _ m)).1;have ir:aa.locals∉σ.all:=λ m=>(f.aar _ (bC _ m)).2.1 rfl;refine Zh (AG (os:=(aa.locals,o)::os) (Yb:=Yb) abx hA (abF.push f.cx.kind fv wY) (λ b m q=>?_) xX xg hR hz f.cx.top f.cx.b4 hS f.jp.2 (λ b m=>?_) (f.frames ho f.jp.1) ⟨rfl,trivial⟩) (λ v aH q=>?_) eY
 ·rcases cF q with rfl|q
  ·exact ir m
  ·exact mK b m q
 ·rcases cF m with rfl|m
  ·exact f.Zt.loc
  ·exact L9 b m
 refine d5 q λ R fR aaH X' nN LQ=>?_;subst fR;refine cS aaH.same λ h' tk eK=>?_;subst eK;have hn:∀b∈(gv σ R).all.filter (λ b=>!σ.all.contains b),aj.heap.get? b=none:=λ b m=>by
  refine cO (aa7 m) λ m1 m2=>?_;rcases LQ b m1 with q|q
  ·simp at m2;exact absurd q m2
  ·exact q
 refine ⟨(λ a e=>by cases e),?_⟩;refine k R ((gv σ R).all.filter (λ b=>!σ.all.contains b)++S) _ (λ b m=>bC _ m) (λ b m q=>?_) (f.Sz (tk:=tk) (N:=(gv σ R).all.filter (λ b=>!σ.all.contains b)) (D:=dh ((aa.locals,o)::os)++σ.all) (h':=h') (aa_:=(bK os).and (b8 (gv σ R))) (λ b m=>?_) aaH.keep (λ b m=>?_) (λ o' e=>?_) hn (λ b m=>qJ X' b (aa7 m).1) ⟨λ p m=>nN p (Ym _ m),X'⟩ λ b m=>?_)
 ·rcases LQ b m with z|z
  ·exact mK b z q
  ·exact rS f z (bL _ q)
 ·rcases bR m with m|m
  ·rcases cF m with m|m
   ·exact .inl m
   ·exact .inr (bL _ m)
  ·exact .inr (bC _ m)
 ·rcases bR m with m|m
  ·exact nN.live b m
  ·refine aM (f.cx.b4 b (hS b m)) λ o' e=>?_;exact aaH.live b o' e
 ·rw [ho] at e;cases e;exact nN _ di
 ·rcases bR m with m|m
  ·exact .inl (bL _ m)
  ·by_cases q:b∈σ.all
   ·exact .inl (bC _ q)
   ·exact .inr (List.mem_filter.mpr ⟨m,by simpa using q⟩)
def Gf {α:Type _} {b:α} {k l:List α} (m:b∈k++l):b∈l++k:=(bR m).elim (bC _) (bL _)
def u2 {α:Type _} {b:α} {j k l:List α} (h:b∈k->b∈l) (m:b∈j++k):b∈j++l:=(bR m).elim (bL _) λ m=>bC _ (h m)
def YQ.toS (f:YQ sc ak F aw az aa ρ (K.and (L.and (O.and T))) S s):YQ sc ak F aw az aa ρ ((K.and (L.and O)).and T) S s:=
 f.fX ⟨⟨f.jp.1,f.jp.2.1,f.jp.2.2.1⟩,f.jp.2.2.2⟩ λ b m=>by have m:b∈(K.fp++(L.fp++O.fp))++T.fp:=m;rw [List.append_assoc,List.append_assoc] at m;exact m
def YQ.PX (f:YQ sc ak F aw az aa ρ ((K.and (L.and O)).and T) S s):YQ sc ak F aw az aa ρ (K.and (L.and (O.and T))) S s:=
 f.fX ⟨f.jp.1.1,f.jp.1.2.1,f.jp.1.2.2,f.jp.2⟩ λ b m=>by show b∈(K.fp++(L.fp++O.fp))++T.fp;rw [List.append_assoc,List.append_assoc];exact m
def YQ.Tn (f:YQ sc ak F aw az aa ρ (K.and (L.and (O.and T))) S s):YQ sc ak F aw az aa ρ ((K.and (L.and T)).and O) S s:=
 f.fX ⟨⟨f.jp.1,f.jp.2.1,f.jp.2.2.2⟩,f.jp.2.2.1⟩ λ b m=>by have m:b∈(K.fp++(L.fp++T.fp))++O.fp:=m;rw [List.append_assoc,List.append_assoc] at m;exact u2 (u2 Gf) m
def YQ.Wf (f:YQ sc ak F aw az aa ρ ((K.and (L.and T)).and O) S s):YQ sc ak F aw az aa ρ (K.and (L.and (O.and T))) S s:=
 f.fX ⟨f.jp.1.1,f.jp.1.2.1,f.jp.2,f.jp.1.2.2⟩ λ b m=>by show b∈(K.fp++(L.fp++T.fp))++O.fp;rw [List.append_assoc,List.append_assoc];exact u2 (u2 Gf) m
def rT [DecidableEq α]:∀(l m:List α),l.Nodup->(∀x∈l,x∈m)->l.length<=m.length:=by
 intro l;induction l with
 |nil=>intro m _ _;exact Nat.zero_le _
 |cons x l ih=>
  intro m hn hs;refine cO (List.nodup_cons.mp hn) λ n1 n2=>?_;have hx:x∈m:=hs x di;have:=ih (m.erase x) n2 λ y hy=>(List.mem_erase_of_ne λ q:y=x=>n1 (q▸hy)).mpr (hs y (Ym _ hy));rw [List.length_erase_of_mem hx] at this;have:=List.length_pos_of_mem hx;rw [List.length_cons];w_up
structure abM (ns:List abp) (X:Tx->Prop) (np:Tx->Int) (sc:Tx->List Tx):Prop where
 nn:(ns.map λ n=>n.node).Nodup
 has:∀x,X x<->∃n∈ns,n.node=x
 val:∀n∈ns,n.np=np n.node/\n.succ=sc n.node
section
variable {ns:List abp} {X:Tx->Prop} {sc:Tx->List Tx} {x p:Tx}
def abM.congr (v:abM ns X np sc) (h1:∀x,X' x<->X x) (h2:∀x,X x->Lh x=np x/\QX x=sc x):abM ns X' Lh QX:=
 ⟨v.nn,λ x=>(h1 x).trans (v.has x),λ n hn=>by refine cO (v.val n hn) λ a b=>?_;refine cO (h2 n.node ((v.has _).mpr ⟨n,hn,rfl⟩)) λ c d=>?_;exact ⟨a.trans c.symm,b.trans d.symm⟩⟩
def abM.jM (v:abM ns X np sc) (h:¬X x->np x=0/\sc x=[]):abM (jM ns x) (λ y=>X y\/y=x) np sc:=by
 unfold Mine.jM;by_cases q:ns.any (λ n=>decide (n.node=x))=true
 ·rw [if_pos q];have hx:X x:=(v.has x).mpr (by refine aK (List.any_eq_true.mp q) λ n hn e=>?_;exact cV n hn (by simpa using e))
  exact v.congr (λ y=>⟨λ h=>h.elim id λ e=>e▸hx,.inl⟩) λ ξ ξ=>⟨rfl,rfl⟩
 ·rw [if_neg q];have hx:¬X x:=λ hX=>by refine aK ((v.has x).mp hX) λ n hn e=>?_;exact q (List.any_eq_true.mpr ⟨n,hn,by simpa using e⟩)
  refine ⟨?_,λ y=>?_,λ n hn=>?_⟩
  ·rw [List.map_append,List.nodup_append];refine iJ v.nn (by simp) (λ a ha b hb e=>?_);refine aK (abQ ha) λ n hn fR=>?_;subst fR;have hb:b=x:=by simpa using hb
   exact hx ((v.has x).mpr ⟨n,hn,e.trans hb⟩)
  ·constructor
   ·rintro (h|rfl)
    ·refine aK ((v.has y).mp h) λ n hn e=>?_;exact cV n (bL _ hn) e
    ·exact cV _ (bC _ (List.mem_singleton.mpr rfl)) rfl
   ·rintro ⟨n,hn,e⟩;rcases bR hn with hn|hn
    ·exact .inl ((v.has y).mpr ⟨n,hn,e⟩)
    ·rw [bj hn] at e;exact .inr e.symm
  ·rcases bR hn with hn|hn
   ·exact v.val n hn
   ·rw [bj hn];refine cO (h hx) λ a b=>?_;exact ⟨a.symm,b.symm⟩
def abM.lP {k:Int->Int} {u:List Tx->List Tx} {g:abp->abp} (v:abM ns X np sc) (h1:∀n,(g n).node=n.node) (h2:∀n,(g n).np=k n.np) (h3:∀n,(g n).succ=u n.succ):
  abM (lP ns x g) X (λ y=>if y=x then k (np y) else np y) (λ y=>if y=x then u (sc y) else sc y):=by
 have nd:∀n,(if n.node=x then g n else n).node=n.node:=λ n=>by split;exact h1 n;rfl
 unfold Mine.lP;refine ⟨?_,λ y=>(v.has y).trans ⟨λ ⟨n,hn,e⟩=>cV _ (List.mem_map.mpr ⟨n,hn,rfl⟩) ((nd n).trans e),λ ⟨m,hm,e⟩=>?_⟩,λ m hm=>?_⟩
 ·rw [List.map_map,show ((λ n:abp=>n.node)∘λ n=>if n.node=x then g n else n)=λ n=>n.node from funext nd];exact v.nn
 ·refine aK (abQ hm) λ n hn gG=>?_;subst gG;exact cV n hn ((nd n).symm.trans e)
 ·refine aK (abQ hm) λ n hn il=>?_;subst il;refine cO (v.val n hn) λ a b=>?_;rw [nd n];by_cases q:n.node=x
  ·simp only [if_pos q];rw [h2,h3,a,b];exact ⟨rfl,rfl⟩
  ·simp only [if_neg q];exact ⟨a,b⟩
def oP (aq:List (Tx×Tx)) (D:List Tx) (x:Tx):Prop:=x=aF\/x∈D\/∃y∈D,cE aq y=x
noncomputable def kN (D:List Tx) (x:Tx):Int:=if x∈D then 1 else 0
def lX (aq:List (Tx×Tx)) (D:List Tx) (x:Tx):List Tx:=D.filter λ y=>decide (cE aq y=x)
def Told (aq:List (Tx×Tx)) (ns:List abp) (D:List Tx):Prop:=abM ns (oP aq D) (kN D) (lX aq D)
def Ho:Told aq [⟨aF,0,[]⟩] []:=⟨by simp,λ x=>by simp [oP,eq_comm],λ n hn=>by rw [bj hn];exact ⟨rfl,rfl⟩⟩
def EL {D:List Tx} (v:Told aq ns D) (hx:x∉D):Told aq (sL ns x [cE aq x]) (D++[x]):=by
 have v1:=(v.jM (x:=x) λ h=>⟨if_neg hx,by unfold lX;refine List.filter_eq_nil_iff.mpr λ y hy=>?_;simpa using λ e=>h (.inr (.inr ⟨y,hy,e⟩))⟩).lP (x:=x) (k:=λ i=>i+1) (u:=id) (g:=ky 1) (λ ξ=>rfl) (λ ξ=>rfl) (λ ξ=>rfl)
 have v2:=(v1.jM (x:=cE aq x) λ h=>by
  have hp:cE aq x≠x:=λ e=>h (.inr e);have hD:¬oP aq D (cE aq x):=λ e=>h (.inl e);refine ⟨?_,?_⟩
  ·rw [if_neg hp];exact if_neg λ m=>hD (.inr (.inl m))
  ·rw [if_neg hp];refine List.filter_eq_nil_iff.mpr λ y hy=>?_;simpa using λ e=>hD (.inr (.inr ⟨y,hy,e⟩))).lP (x:=cE aq x) (k:=id) (u:=λ l=>l++[x]) (g:=k7 x) (λ ξ=>rfl) (λ ξ=>rfl) (λ ξ=>rfl)
 refine abM.congr (ns:=sL ns x [cE aq x]) v2 (λ y=>?_) λ y ξ=>⟨?_,?_⟩
 ·unfold oP;constructor
  ·rintro (h|h|⟨z,hz,e⟩)
   ·exact .inl (.inl (.inl h))
   ·rcases bR h with h|h
    ·exact .inl (.inl (.inr (.inl h)))
    ·exact .inl (.inr (bj h))
   ·rcases bR hz with hz|hz
    ·exact .inl (.inl (.inr (.inr ⟨z,hz,e⟩)))
    ·rw [bj hz] at e;exact .inr e.symm
  ·rintro (((h|h|⟨z,hz,e⟩)|h)|h)
   ·exact .inl h
   ·exact .inr (.inl (bL _ h))
   ·exact .inr (.inr ⟨z,bL _ hz,e⟩)
   ·exact .inr (.inl (bC _ (List.mem_singleton.mpr h)))
   ·exact .inr (.inr ⟨x,bC _ (List.mem_singleton.mpr rfl),h.symm⟩)
 ·have e:(if y=cE aq x then id (if y=x then kN D y+1 else kN D y) else if y=x then kN D y+1 else kN D y)=if y=x then kN D y+1 else kN D y:=by split<;>rfl
  rw [e];unfold kN;by_cases q:y=x
  ·subst q;simp [hx]
  ·simp [q]
 ·have e:(if y=x then id (lX aq D y) else lX aq D y)=lX aq D y:=by split<;>rfl
  rw [e];unfold lX;rw [List.filter_append];by_cases q:cE aq x=y
  ·simp [q]
  ·have q':¬y=cE aq x:=λ e=>q e.symm;simp [q,q']
def iS (aq:List (Tx×Tx)) (t:List Tx) (i:Nat):List abp:=(t.take i).foldl (λ ns p=>sL ns p [cE aq p]) [⟨aF,0,[]⟩]
def xt (h:i<t.length):iS aq t (i+1)=sL (iS aq t i) t[i] [cE aq t[i]]:=by unfold iS;rw [List.take_add_one,List.getElem?_eq_getElem h,Option.toList,List.foldl_append];rfl
def EM (hn:t.Nodup):∀i,i≤t.length->Told aq (iS aq t i) (t.take i):=by
 intro i;induction i with
 |zero=>intro _;exact Ho
 |succ i ih=>
  intro h;have ih:=ih (by w_up);rw [xt (by w_up),List.take_add_one,List.getElem?_eq_getElem (by w_up),Option.toList];refine EL ih λ m=>?_;obtain ⟨j,hj,e⟩:=List.mem_take_iff_getElem.mp m;have:=(List.getElem_inj hn).mp e;w_up
structure lq (ah t:List Tx) (aq:List (Tx×Tx)):Prop where
 hd:ah=aF::t
 nd:ah.Nodup
 keys:∀p∈ah,p∈aq.map (·.1)
 up:∀p∈ah,cE aq p∈ah
 Zo:aa8∉ah
 plain:∀p∈ah,lh p
 len:ah.length<=30
 Kn:∀p∈ah,p.cs.length<=100
 dir:∀p∈ah,An p (cE aq p)=true
 less:∀p∈t,(cE aq p).cs.length<p.cs.length
def lq.Wg (g:lq ah t aq):kids ah aq x=lX aq t x:=by have hn:=g.nd;rw [g.hd] at hn;refine cO (List.nodup_cons.mp hn) λ n1 n2=>?_;unfold kids lX;rw [g.hd,List.filter_cons_of_neg (by simp)];refine List.filter_congr λ y hy=>?_;have:y≠aF:=λ e=>n1 (e▸hy);simp [this]
def lq.aaA (g:lq ah t aq):t.Nodup:=by have hn:=g.nd;rw [g.hd] at hn;exact (List.nodup_cons.mp hn).2
def lq.sl (g:lq ah t aq):aF∉t:=by have hn:=g.nd;rw [g.hd] at hn;exact (List.nodup_cons.mp hn).1
def lq.Ko (g:lq ah t aq) (i:Nat) (h:i<=t.length):Told aq (iS aq t i) (t.take i)/\(iS aq t i).length<=30/\∀n∈iS aq t i,n.succ.length<=30:=by
 have v:=EM (aq:=aq) g.aaA i h;have To:∀y∈t.take i,y∈ah:=λ y hy=>by rw [g.hd];exact Ym _ (List.mem_of_mem_take hy)
 refine iJ v ?_ (λ n hn=>?_)
 ·have:=rT ((iS aq t i).map λ n=>n.node) ah v.nn λ y hy=>by
   refine aK (abQ hy) λ n hn fO=>?_;subst fO;rcases (v.has n.node).mpr ⟨n,hn,rfl⟩ with e|e|⟨z,hz,e⟩
   ·rw [e,g.hd];exact di
   ·exact To _ e
   ·rw [<-e];exact g.up _ (To _ hz)
  rw [lm] at this;have:=g.len;w_up
 ·rw [(v.val n hn).2];have h1:=List.length_filter_le (λ y=>decide (cE aq y=n.node)) (t.take i);have h2:t.length+1<=30:=by have:=g.len;rw [g.hd] at this;exact this
  unfold lX;rw [List.length_take] at h1;w_up
def lq.oP (g:lq ah t aq):oP aq t x<->x∈ah:=by
 rw [g.hd];constructor
 ·rintro (h|h|⟨z,hz,e⟩)
  ·rw [h];exact di
  ·exact Ym _ h
  ·rw [<-e,<-g.hd];exact g.up z (by rw [g.hd];exact Ym _ hz)
 ·intro h;rcases cF h with h|h
  ·exact .inl h
  ·exact .inr (.inl h)
def lq.start (g:lq ah t aq) {R:Addr} (h:σ.pl=iS aq t t.length) (h1:σ.out=0) (h2:σ.fin=0):Inv ah aq (gv σ R) [] [] [aF]:=by
 refine eU (g.Ko t.length (Nat.le_refl _)) λ v ξ ξ=>?_;rw [List.take_length,<-h] at v;have g8:σ.pl.map (λ n=>n.node)=σ.es.map λ e=>e.nd.node:=by unfold bQ.pl;rw [List.map_map];rfl
 have hs:aF∈ah:=by rw [g.hd];exact di
 have vw:Xy ah (gv σ R) (q9 [] [] [aF]) (kids ah aq):=by
  refine ⟨(show (σ.es.map λ e=>e.nd.node).Nodup by rw [<-g8];exact v.nn),λ y=>g.oP.symm.trans ((v.has y).trans ⟨λ ⟨n,hn,e⟩=>?_,λ ⟨en,jB,e⟩=>cV en.nd (List.mem_map.mpr ⟨en,jB,rfl⟩) e⟩),λ en jB=>?_⟩
  ·refine aK (abQ hn) λ en jB gj=>?_;subst gj;exact cV en jB e
  ·refine cO (v.val en.nd (List.mem_map.mpr ⟨en,jB,rfl⟩)) λ a b=>?_;refine ⟨a.trans ?_,b.trans g.Wg.symm⟩;have hm:en.nd.node∈ah:=g.oP.mp ((v.has _).mpr ⟨en.nd,List.mem_map.mpr ⟨en,jB,rfl⟩,rfl⟩);unfold kN q9;rw [g.hd] at hm;rcases cF hm with e|e
   ·rw [e];simp [g.sl]
   ·have:en.nd.node≠aF:=λ q=>g.sl (q▸e);simp [e,this]
 refine ⟨vw,?_,?_,List.nodup_nil,List.nodup_nil,by simp,λ ξ m=>(nomatch m),λ ξ m=>(nomatch m),λ ξ m=>(nomatch m),λ ξ m=>(nomatch m),λ ξ m=>(nomatch m),λ y m=>by rw [bj m];exact hs,λ y m hy=>?_⟩
 ·show ny σ.pl=[aF];have a8:∀n∈σ.pl,(n.np=0<->n.node=aF):=λ n hn=>by
   refine cO (v.val n hn) λ a ξ=>?_;have hm:n.node∈ah:=g.oP.mp ((v.has _).mpr ⟨n,hn,rfl⟩);rw [a];unfold kN;rw [g.hd] at hm;rcases cF hm with e|e
   ·rw [e];simp [g.sl]
   ·have:n.node≠aF:=λ q=>g.sl (q▸e);simp [e,this]
  refine aK ((v.has aF).mp (.inl rfl)) λ Yg Te e0=>?_;have gen:∀(L:List abp),(L.map λ n=>n.node).Nodup->(∀n∈L,(n.np=0<->n.node=aF))->aF∈(L.map λ n=>n.node)->ny L=[aF]:=by
   intro L;induction L with
   |nil=>intro _ _ m;cases m
   |cons a L ih=>
    intro hn hk hm;rw [List.map_cons,List.nodup_cons] at hn;by_cases q:a.node=aF
    ·have z:ny L=[]:=by unfold ny;rw [List.map_eq_nil_iff,List.filter_eq_nil_iff];intro b hb;simp only [decide_eq_true_eq];intro e;have:=(hk b (Ym _ hb)).mp e;exact hn.1 (List.mem_map.mpr ⟨b,hb,this.trans q.symm⟩)
     unfold ny at z⊢;rw [List.filter_cons_of_pos (by simpa using (hk a di).mpr q),List.map_cons,z,q]
    ·have hz:¬a.np=0:=λ e=>q ((hk a di).mp e);unfold ny;rw [List.filter_cons_of_neg (by simpa using hz)];refine ih hn.2 (λ n hn=>hk n (Ym _ hn)) ?_;rcases cF hm with e|e
     ·exact absurd e.symm q
     ·exact e
  exact gen _ v.nn a8 (List.mem_map.mpr ⟨Yg,Te,e0⟩)
 ·show σ.out=σ.fin+_;rw [h1,h2];rfl
 ·rcases m with m|m|m
  ·cases m
  ·cases m
  ·exact absurd (bj m) hy
def Gg (ah:List Tx) (aq:List (Tx×Tx)) (av:List Tx) (ae:List Int) (i:Nat):List Tx:=
 let st:=bF ah aq av ae i
 cu av st.given++df (cu av st.given) (c9 av st.given st.hand) (numAt ae i)
noncomputable def jF (ah:List Tx) (aq:List (Tx×Tx)) (av:List Tx) (ae:List Int) (σ:bQ):Nat->bQ
 |0=>σ
 |i+1=>eQ (dF (jF ah aq av ae σ i)) (Gg ah aq av ae i)
def qr (hp:ah.Nodup) (v:Inv ah aq σ [] [] [aF]):∀i,Inv ah aq (jF ah aq av ae σ i) (bF ah aq av ae i).past (bF ah aq av ae i).hand (bF ah aq av ae i).given:=by
 intro i;induction i with
 |zero=>exact v
 |succ i ih=>
  rw [fF];exact Hl hp (ih)
def qs {P H:List Tx} (v:Inv ah aq σ P H G):P.length+H.length+G.length<=ah.length:=by
 have:=rT (P++H++G) ah (by
  rw [List.nodup_append,List.nodup_append];refine iJ ⟨v.abB,v.ZI,λ a ha b hb e=>v.Kf a ha (e▸hb)⟩ v.abK (λ a ha b hb e=>?_);rcases bR ha with ha|ha
  ·exact v.Me a ha (e▸hb)
  ·exact v.Kg a ha (e▸hb)) λ x hx=>by
   rcases bR hx with hx|hx
   ·rcases bR hx with hx|hx
    ·exact v.aas x hx
    ·exact v.Yk x hx
   ·exact v.Zf x hx
 rwa [gD,gD] at this
def Hp:∀i,((bF ah aq av ae i).given=[]/\(bF ah aq av ae i).hand=[])\/i<=(bF ah aq av ae i).past.length:=by
 intro i;induction i with
 |zero=>exact .inr (Nat.zero_le _)
 |succ i ih=>
  rw [fF];generalize fh:bF ah aq av ae i=st;have ih:=ih;rw [fh] at ih;by_cases hl:cu av st.given=[]
  ·by_cases hh:c9 av st.given st.hand=[]
   ·left;have PY:df (cu av st.given) (c9 av st.given st.hand) (numAt ae i)=[]:=if_neg λ z=>z.2 hh;refine ⟨?_,?_⟩
    ·show nextOf ah aq (cu av st.given++df (cu av st.given) (c9 av st.given st.hand) (numAt ae i))=[];rw [PY,hl];rfl
    ·show (c9 av st.given st.hand).filter _=[];rw [hh];rfl
   ·right;rcases ih with ⟨h1,h2⟩|ih
    ·exact absurd (by unfold c9;rw [h1,h2];rfl) hh
    ·show _<=(st.past++cu av st.given++df (cu av st.given) (c9 av st.given st.hand) (numAt ae i)).length;rw [show df (cu av st.given) (c9 av st.given st.hand) (numAt ae i)=[_] from if_pos ⟨hl,hh⟩];simp only [gD,List.length_cons,List.length_nil];w_up
  ·right;rcases ih with ⟨h1,h2⟩|ih
   ·exact absurd (by unfold cu;rw [h1];rfl) hl
   ·show _<=(st.past++cu av st.given++df (cu av st.given) (c9 av st.given st.hand) (numAt ae i)).length;have:=List.length_pos_iff.mpr hl;simp only [gD];w_up
def CI (hp:ah.Nodup) (v:Inv ah aq σ [] [] [aF]):(bF ah aq av ae ah.length).given=[]/\(bF ah aq av ae ah.length).hand=[]:=by
 rcases Hp (ah:=ah) (aq:=aq) (av:=av) (ae:=ae) ah.length with h|h
 ·exact h
 ·have:=qs (qr (av:=av) (ae:=ae) hp v ah.length);exact ⟨List.length_eq_zero_iff.mp (by w_up),List.length_eq_zero_iff.mp (by w_up)⟩
def qP:∀i,(jF ah aq av ae σ i).D=σ.D/\(jF ah aq av ae σ i).R=σ.R/\(jF ah aq av ae σ i).all=σ.all:=by
 intro i;induction i with
 |zero=>exact iJ rfl rfl rfl
 |succ i ih=>
  refine eU (ih) λ a b c=>?_;have gu:=rK (Gg ah aq av ae i) (dF (jF ah aq av ae σ i));refine jG (f7 (σ:=jF ah aq av ae σ i) (jF ah aq av ae σ i).bG.length) λ b1 b2 XR abw YR YY aae=>?_;have iP:(dF (jF ah aq av ae σ i)).all=(jF ah aq av ae σ i).all:=ic (σ:=jF ah aq av ae σ i) (jF ah aq av ae σ i).bG.length;exact iJ (gu.D.trans (b1.trans a)) (gu.R.trans (abw.trans b)) (gu.all.trans (iP.trans c))
end
noncomputable instance:Nonempty World:=⟨w⟩
noncomputable instance:Nonempty Program:=⟨XX⟩
section
def Hq {w:World} {t:Addr} {x:Value} {Q:Value->Shared->Prop} (sr:s.heap.IsTupleIter it t i) (ht:s.heap.IsTuple t items) (hx:items[i]? =some x)
  (hQ:∀h',h'.IsTupleIter it t (i+1)->Heap.SameBut it s.heap h'->Q x {s with heap:=h'}):wpAny (model prog w) A (Builtin.SmallTypes.nextOf (.ref it)) Q E s:=by
 refine cZ (id sr) λ o ho hc hd=>?_;obtain ⟨ol,PZ,_,nl,Mc⟩:=ht;unfold Builtin.SmallTypes.nextOf;refine Z4 (wpAny_callSpecial?_slot (name:=Str.ofString "__next__") sr.typeIs PySem.F.slot_tuple_iterator_next
  (wpAny_call_entry PySem.F.slot_tuple_iterator_next sr.typeIs PySem.F.entry_tuple_iterator_next ?_ (PySem.F.args_tuple_iterator_next_1 _)))
 show wpAny _ _ (field (.ref it) 0>>=_) _ _ s;refine Z4 (wpAny_field ho hd (x:=.ref t) rfl ?_);show wpAny _ _ (if (Value.ref t==Value.none)=true then _ else _) _ _ s;rw [if_neg (by simp)];show wpAny _ _ (field (.ref it) 1>>=_) _ _ s;refine Z4 (wpAny_field ho hd (x:=.int i 0) rfl ?_);show wpAny _ _ (seqItems? (.ref t)>>=_) _ _ s;refine Z4 (wpAny_seqItems PZ Mc ?_);simp only [Int.toNat_natCast,hx];refine Z4 (wpAny_setField ho hd (by simp) (X5 ⟨x,rfl,X5 (hQ _ ?_ (Heap.SameBut.update ..))⟩));exact ⟨_,Heap.get?_update_self _ ho (Obj.isFreed_of_fields (Obj.data_mapFields hd _)),(Obj.cls_mapFields ..).trans hc,by rw [Obj.data_mapFields hd];simp [rawInt]⟩
def yn {w:World} {t:Addr} {Q:Value->Shared->Prop} (hh:A.handled=none) (sr:s.heap.IsTupleIter it t i) (ht:s.heap.IsTuple t items) (hx:items[i]? =none)
  (hE:∀h' e,Heap.ExtBut it s.heap h'->(∃o,h'.get? e=some o/\o.cls= .type "StopIteration")->E (.ref e) {s with heap:=h'}):wpAny (model prog w) A (Builtin.SmallTypes.nextOf (.ref it)) Q E s:=by
 refine cZ (id sr) λ o ho hc hd=>?_;obtain ⟨ol,PZ,_,nl,Mc⟩:=ht;unfold Builtin.SmallTypes.nextOf;refine Z4 (wpAny_callSpecial?_slot (name:=Str.ofString "__next__") sr.typeIs PySem.F.slot_tuple_iterator_next
  (wpAny_call_entry PySem.F.slot_tuple_iterator_next sr.typeIs PySem.F.entry_tuple_iterator_next ?_ (PySem.F.args_tuple_iterator_next_1 _)))
 show wpAny _ _ (field (.ref it) 0>>=_) _ _ s;refine Z4 (wpAny_field ho hd (x:=.ref t) rfl ?_);show wpAny _ _ (if (Value.ref t==Value.none)=true then _ else _) _ _ s;rw [if_neg (by simp)];show wpAny _ _ (field (.ref it) 1>>=_) _ _ s;refine Z4 (wpAny_field ho hd (x:=.int i 0) rfl ?_);show wpAny _ _ (seqItems? (.ref t)>>=_) _ _ s;refine Z4 (wpAny_seqItems PZ Mc ?_);simp only [Int.toNat_natCast,hx];refine Z4 (wpAny_rule (Z4 (wpAny_setField ho hd (by simp) ?_)));show wpAny _ _ (newExc (.type "StopIteration") []>>=_) _ _ _;refine Z4 ?_;simp only [newExc,newTuple];refine Z4 (wpAny_newObj_type ?_ (by size_fits));refine Z4 (m:=firstArgMember _ _) (wpAny_of_eq (a:=Value.none) (by first|rfl|(simp only [firstArgMember];rfl)) ?_);refine wpAny_newObj_type ?_ (by size_fits);unfold raiseNew;refine Z4 (wpAny_handled ?_)
 first|rw [show A.in1.handled=none from hh]|rw [hh]
 refine Z4 (X5 (wpAny_throw ?_));exact hE _ _ (((Heap.SameBut.update ..).extBut.push _).push _) ⟨_,Heap.get?_push_size _ rfl,rfl⟩
def EN (z TI TO i1 i2 l1 l2:Addr) (xs ys:Array Value) (f0:Value) (k:Nat) (h:Heap):Prop:=
 IsZip h z TI TO f0/\IsPair h TI (.ref i1) (.ref i2)/\(∃a b,IsPair h TO a b)/\h.IsTupleIter i1 l1 k/\h.IsListIter i2 l2 k/\h.IsTuple l1 xs/\h.IsList l2 ys
variable {z:Addr} {ys:Array Value}
def qQ (prog:Program) (A:Around) (E:Value->Shared->Prop) (z TI TO i1 i2 l1 l2:Addr) (xs ys:Array Value) (k:Nat) (w:World) (x y:Value) (Q:Option Value->Shared->Prop):Prop:=∀{s:Shared} (D:ZipApart z TI TO i1 i2 l1 l2) (st:EN z TI TO i1 i2 l1 l2 xs ys .none k s.heap) (hx:xs[k]? =some x) (hy:ys[k]? =some y) (hQ:∀h',EN z TI TO i1 i2 l1 l2 xs ys (rawInt s.heap.objs.size) (k+1) h'->IsPair h' s.heap.objs.size x y->
   (∀c o,c≠z->c≠TO->c≠i1->c≠i2->s.heap.get? c=some o->h'.get? c=some o)->Q (some (.ref s.heap.objs.size)) {s with heap:=h'}),wpAny (model prog w) A (pyNext (.ref z)) Q E s
namespace zt_item_v
def aau:=ev (U (U (U (U (U (U (U (U (U (U (U (U (U (U (U (U qQ))))))))))))))))
def P0:=aau.1.1.1.1.1.1.1.1.1.1.1.1.1.1.1.1
def abN:=aau.1.1.1.1.1.1.1.1.1.1.1.1.1.1.1.2
def aay:=aau.1.1.1.1.1.1.1.1.1.1.1.1.1.1.2
noncomputable def aa8:=aau.1.1.1.1.1.1.1.1.1.1.1.1.1.2
def TIz:=aau.1.1.1.1.1.1.1.1.1.1.1.1.2
def TOz:=aau.1.1.1.1.1.1.1.1.1.1.1.2
def i1z:=aau.1.1.1.1.1.1.1.1.1.1.2
def i2z:=aau.1.1.1.1.1.1.1.1.1.2
def l1z:=aau.1.1.1.1.1.1.1.1.2
def l2z:=aau.1.1.1.1.1.1.1.2
def lV:=aau.1.1.1.1.1.1.2
def Wh:=aau.1.1.1.1.1.2
def kz:=aau.1.1.1.1.2
def Za:=aau.1.1.1.2
def xz:=aau.1.1.2
def Zv:=aau.1.2
def XD:=aau.2
def Zk:qQ P0 abN aay aa8 TIz TOz i1z i2z l1z l2z lV Wh kz Za xz Zv XD:=by
 intro s D st hx hy hQ;refine jG st λ hz Gy ff h1 h2 nK nB=>?_;refine cS ff λ a b Tp=>?_;have hT:s.TypeIs (.ref aa8) "zip":=⟨_,hz,rfl⟩;unfold pyNext;refine Z4 (wpAny_attempt (wpAny_callSpecial?_slot (name:=Str.ofString "__next__") hT PySem.F.slot_zip_next
  (wpAny_call_entry PySem.F.slot_zip_next hT PySem.F.entry_zip_next ?_ (PySem.F.args_zip_next_1 _))))
 show wpAny _ _ (field (.ref aa8) 2>>=_) _ _ _;refine Z4 (wpAny_field hz rfl (x:=.bool false) rfl ?_);show wpAny _ _ (field (.ref aa8) 3>>=_) _ _ _;refine Z4 (wpAny_field hz rfl (x:=.ref TIz) rfl (Z4 (wpAny_seqItems Gy rfl ?_)));show wpAny _ _ (Builtin.SmallTypes.ownedTupleIsFree (.ref aa8)>>=_) _ _ _;refine Z4 ?_;unfold Builtin.SmallTypes.ownedTupleIsFree;refine Z4 (wpAny_field hz rfl (x:=.none) rfl (X5 ?_));simp only [if_true];refine Z4 (wpAny_rule (Z4 (wpAny_field hz rfl (x:=.ref TOz) rfl (Z4 (wpAny_setField_rec hz (by simp) λ Kp xu i9=>?_)))));replace xu:IsZip Kp aa8 TIz TOz .ellipsis:=xu;refine Z4 ?_;simp only [List.zipIdx_cons,List.zipIdx_nil,List.forIn_cons,List.forIn_nil];refine Z4 (Z4 (wpAny_onRaise ?_));show wpAny _ _ (Builtin.SmallTypes.nextOf (.ref i1z)>>=_) _ _ _;refine Z4 (Hq (h1.at λ o e=>i9.extBut _ _ D.i1z e) (nK.at λ o e=>i9.extBut _ _ D.l1z e) hx λ Kq CH xw=>X5 ?_);have cG:IsPair Kq TOz a b:=xw.extBut _ _ D.TOi1 (i9.extBut _ _ D.TOz Tp);refine Z4 (wpAny_seqItems cG rfl (Z4 (wpAny_updateSeq_pair cG λ zl k4 m6=>Z4 (wpAny_letGo (X5 ?_)))));replace k4:IsPair zl TOz xz b:=k4;have xx:∀c o,c≠aa8->c≠i1z->c≠TOz->s.heap.get? c=some o->zl.get? c=some o:=λ c o n1 n2 ZV e=>m6.extBut _ _ ZV (xw.extBut _ _ n2 (i9.extBut _ _ n1 e));refine Z4 (Z4 (wpAny_onRaise ?_));show wpAny _ _ (Builtin.SmallTypes.nextOf (.ref i2z)>>=_) _ _ _;refine Z4 (wpAny_nextOf_list_item (h2.at λ o e=>xx _ _ D.i2z D.i12.symm D.TOi2.symm e) (nB.at λ o e=>xx _ _ D.l2z D.l2i1 D.l2TO e) hy λ J6 NY xh=>X5 ?_);have oY:IsPair J6 TOz xz b:=xh.extBut _ _ D.TOi2 k4;refine Z4 (wpAny_seqItems oY rfl (Z4 (wpAny_updateSeq_pair oY λ qt kb xy=>Z4 (wpAny_letGo (X5 (X5 ?_))))));replace kb:IsPair qt TOz xz Zv:=kb;refine Z4 (wpAny_seqItems kb rfl (Z4 (wpAny_newTuple ?_)));have hsz:qt.objs.size=s.heap.objs.size:=by rw [xy.1,xh.1,m6.1,xw.1,i9.1]
 have sW:∀c o,c≠aa8->c≠TOz->c≠i1z->c≠i2z->s.heap.get? c=some o->qt.get? c=some o:=λ c o n1 n2 ZV aa5 e=>xy.extBut _ _ n2 (xh.extBut _ _ aa5 (xx c o n1 ZV n2 e));have NZ:IsZip qt aa8 TIz TOz .ellipsis:=xy.extBut _ _ D.TOz.symm (xh.extBut _ _ D.i2z.symm (m6.extBut _ _ D.TOz.symm (xw.extBut _ _ D.i1z.symm xu)));have GY:@LT.lt Nat _ aa8 qt.objs.size:=Heap.lt_size NZ;show wpAny _ _ (Builtin.SmallTypes.ownedTupleHandOut (.ref aa8) (.ref qt.objs.size)>>=_) _ _ _;refine Z4 ?_;unfold Builtin.SmallTypes.ownedTupleHandOut;have Tq:IsZip (qt.push {cls:=.type "tuple",data:=.seq #[xz,Zv]}) aa8 TIz TOz .ellipsis:=cN _ NZ;refine Z4 (wpAny_setField_rec Tq (by simp) λ J7 Kr Gb=>?_);replace Kr:IsZip J7 aa8 TIz TOz (rawInt qt.objs.size):=Kr;refine wpAny_setField_rec Kr (by simp) λ Gh Gi Bk=>?_;replace Gi:IsZip Gh aa8 TIz TOz (rawInt qt.objs.size):=Gi;have EO:∀c o,c≠aa8->qt.get? c=some o->Gh.get? c=some o:=λ c o n e=>Bk.extBut _ _ n (Gb.extBut _ _ n (cN _ e));have Fq:IsPair Gh qt.objs.size xz Zv:=Bk.extBut _ _ (Nat.ne_of_gt GY) (Gb.extBut _ _ (Nat.ne_of_gt GY) (Heap.get?_push_size _ rfl));refine X5 ⟨_,rfl,?_⟩;rw [hsz] at Gi Fq;show wpAny _ _ _ _ _ _;have fin:=hQ Gh ⟨Gi,EO _ _ D.TIz (sW _ _ D.TIz D.TITO D.TIi1 D.TIi2 Gy),⟨_,_,EO _ _ D.TOz kb⟩,
  CH.at λ o e=>EO _ _ D.i1z (xy.extBut _ _ D.TOi1.symm (xh.extBut _ _ D.i12 (m6.extBut _ _ D.TOi1.symm e))),
  NY.at λ o e=>EO _ _ D.i2z (xy.extBut _ _ D.TOi2.symm e),
  nK.at λ o e=>EO _ _ D.l1z (sW _ _ D.l1z D.l1TO D.l1i1 D.l1i2 e),nB.at λ o e=>EO _ _ D.l2z (sW _ _ D.l2z D.l2TO D.l2i1 D.l2i2 e)⟩ Fq λ c o n1 n2 ZV aa5 e=>EO c o n1 (sW c o n1 n2 ZV aa5 e)
 rw [<-hsz] at fin;exact X5 fin
end zt_item_v
def Ks {w:World} {x y:Value} {Q:Option Value->Shared->Prop}:qQ prog A E z TI TO i1 i2 l1 l2 xs ys k w x y Q:=s7 (U (U (U (U (U (U (U (U (U (U (U (U (U (U (U (U qQ)))))))))))))))) zt_item_v.Zk ((((((((((((((((prog,A),E),z),TI),TO),i1),i2),l1),l2),xs),ys),k),w),x),y),Q)
def Mh {w:World} {Q:Option Value->Shared->Prop} (hh:A.handled=none) (D:ZipApart z TI TO i1 i2 l1 l2) (st:EN z TI TO i1 i2 l1 l2 xs ys .none k s.heap) (hx:xs[k]? =none)
  (hQ:∀h',(∀c o,c≠z->c≠i1->s.heap.get? c=some o->h'.get? c=some o)->Q none {s with heap:=h'}):
  wpAny (model prog w) A (pyNext (.ref z)) Q E s:=by
 refine jG st λ hz Gy fR h1 h2 nK nB=>?_;refine cS fR λ a b Tp=>?_;have hT:s.TypeIs (.ref z) "zip":=⟨_,hz,rfl⟩;unfold pyNext;refine Z4 (wpAny_attempt (wpAny_callSpecial?_slot (name:=Str.ofString "__next__") hT PySem.F.slot_zip_next
  (wpAny_call_entry PySem.F.slot_zip_next hT PySem.F.entry_zip_next ?_ (PySem.F.args_zip_next_1 _))))
 show wpAny _ _ (field (.ref z) 2>>=_) _ _ _;refine Z4 (wpAny_field hz rfl (x:=.bool false) rfl ?_);show wpAny _ _ (field (.ref z) 3>>=_) _ _ _;refine Z4 (wpAny_field hz rfl (x:=.ref TI) rfl (Z4 (wpAny_seqItems Gy rfl ?_)));show wpAny _ _ (Builtin.SmallTypes.ownedTupleIsFree (.ref z)>>=_) _ _ _;refine Z4 ?_;unfold Builtin.SmallTypes.ownedTupleIsFree;refine Z4 (wpAny_field hz rfl (x:=.none) rfl (X5 ?_));simp only [if_true];refine Z4 (wpAny_rule (Z4 (wpAny_field hz rfl (x:=.ref TO) rfl (Z4 (wpAny_setField_rec hz (by simp) λ Kp xu i9=>?_)))));replace xu:IsZip Kp z TI TO .ellipsis:=xu;refine Z4 ?_;simp only [List.zipIdx_cons,List.zipIdx_nil,List.forIn_cons,List.forIn_nil];refine Z4 (Z4 (wpAny_onRaise ?_));show wpAny _ _ (Builtin.SmallTypes.nextOf (.ref i1)>>=_) _ _ _;refine Z4 (yn hh (h1.at λ o e=>i9.extBut _ _ D.i1z e) (nK.at λ o e=>i9.extBut _ _ D.l1z e) hx λ Kq e xw he=>?_);refine aK he λ oe P1 Tr=>?_;have Gj:IsZip Kq z TI TO .ellipsis:=xw _ _ D.i1z.symm xu;have Wi:e≠z:=λ q=>by subst q;rw [Gj] at P1;cases P1;simp at Tr
 refine wpAny_setField_rec Gj (by simp) λ zl ξ m6=>?_;refine Z4 (wpAny_isInstance (T:="StopIteration") (b:=true) ⟨oe,m6.extBut _ _ Wi P1,Tr⟩ isSubtype_stop ?_);exact X5 (hQ zl λ c o n1 n2 q=>m6.extBut _ _ n1 (xw _ _ n2 (i9.extBut _ _ n1 q)))
noncomputable abbrev Mi (h:Heap) (l1:Addr):Heap:=h.push {cls:=.type "tuple_iterator",data:=.fields #[.ref l1,.int 0 0]}
abbrev Mj (h:Heap) (l1 l2:Addr):Heap:=(Mi h l1).push {cls:=.type "list_iterator",data:=.fields #[.ref l2,.int 0 0]}
abbrev Mk (h:Heap) (l1 l2:Addr):Heap:=(Mj h l1 l2).push {cls:=.type "tuple",data:=.seq #[.ref h.objs.size,.ref (Mi h l1).objs.size]}
abbrev Ml (h:Heap) (l1 l2:Addr):Heap:=(Mk h l1 l2).push {cls:=.type "tuple",data:=.seq #[.none,.none]}
abbrev yo (h:Heap) (l1 l2:Addr):Heap:=(Ml h l1 l2).push {cls:=.type "zip",data:=.fields #[.none,.bool false,.bool false,.ref (Mj h l1 l2).objs.size,.ref (Mk h l1 l2).objs.size]}
def Ku (nK:h.IsTuple l1 xs) (nB:h.IsList l2 ys):(Ml h l1 l2).objs.size=h.objs.size+4/\EN (h.objs.size+4) (h.objs.size+2) (h.objs.size+3) h.objs.size (h.objs.size+1) l1 l2 xs ys .none 0 (yo h l1 l2)/\(yo h l1 l2).objs.size=h.objs.size+5/\XN h (yo h l1 l2):=by
 have z1:(Mi h l1).objs.size=h.objs.size+1:=Heap.size_push ..;have z2:(Mj h l1 l2).objs.size=h.objs.size+2:=by rw [Heap.size_push,z1]
 have Zu:(Mk h l1 l2).objs.size=h.objs.size+3:=by rw [Heap.size_push,z2]
 have X4:(Ml h l1 l2).objs.size=h.objs.size+4:=by rw [Heap.size_push,Zu]
 have YW:(yo h l1 l2).objs.size=h.objs.size+5:=by rw [Heap.size_push,X4]
 have up:∀b o,h.get? b=some o->(yo h l1 l2).get? b=some o:=λ b o e=>
  cN _ (cN _ (cN _ (cN _ (cN _ e))))
 have Zz:(yo h l1 l2).get? (Ml h l1 l2).objs.size=some _:=Heap.get?_push_size _ rfl;have aad:(yo h l1 l2).get? (Mk h l1 l2).objs.size=some _:=cN _ (Heap.get?_push_size _ rfl);have g3:(yo h l1 l2).get? (Mj h l1 l2).objs.size=some _:=cN _ (cN _ (Heap.get?_push_size _ rfl));have g2:(yo h l1 l2).get? (Mi h l1).objs.size=some _:=cN _ (cN _ (cN _ (Heap.get?_push_size _ rfl)));have g1:(yo h l1 l2).get? h.objs.size=some _:=cN _ (cN _ (cN _ (cN _ (Heap.get?_push_size _ rfl))));rw [z2,Zu,X4] at Zz;rw [Zu] at aad;rw [z1,z2] at g3;rw [z1] at g2;exact iD X4 ⟨Zz,g3,⟨_,_,aad⟩,⟨_,g1,rfl,rfl⟩,⟨_,g2,rfl,rfl⟩,nK.at λ o e=>up _ o e,nB.at λ o e=>up _ o e⟩ YW up
def yp (l1 l2:Addr) (xs ys:Array Value):
  Meets (Builtin.«zip.__new__» ⟨[.type "zip",.ref l1,.ref l2],[]⟩) (λ ξ R s=>s.heap.IsTuple l1 xs/\s.heap.IsList l2 ys/\
   (∀h',EN (s.heap.objs.size+4) (s.heap.objs.size+2) (s.heap.objs.size+3) s.heap.objs.size (s.heap.objs.size+1) l1 l2 xs ys .none 0 h'->h'.objs.size=s.heap.objs.size+5->XN s.heap h'->
    R (.ok (.ret (.ref (s.heap.objs.size+4)))) {s with heap:=h'})):=
 .of_wp λ prog w A R s h=>by
  obtain ⟨hp,g,d,tk,os⟩:=s;refine eU h λ nK nB h=>?_;have gz:=sub_zip;have Oq:Heap.IsTuple (Shared.heap ⟨hp,g,d,tk,os⟩) l1 xs:=nK;have Wj:Heap.IsList (Shared.heap ⟨hp.push {cls:=.type "tuple_iterator",data:=.fields #[.ref l1,.int 0 0]},g,d,tk,os⟩) l2 ys:=Heap.IsList.push nB _
  wp_walk using wpAny_pyIter_tuple Oq,wpAny_pyIter_list Wj
  refine cV _ rfl ?_;refine jw (Ku nK nB) λ m1 m2 m3 m4=>?_;have a8:=h _ m2 m3 m4;rw [<-m1] at a8;exact a8
def AL {w:World} {Q:Value->Shared->Prop} (nK:s.heap.IsTuple l1 xs) (nB:s.heap.IsList l2 ys)
  (h:∀h',EN (s.heap.objs.size+4) (s.heap.objs.size+2) (s.heap.objs.size+3) s.heap.objs.size (s.heap.objs.size+1) l1 l2 xs ys .none 0 h'->h'.objs.size=s.heap.objs.size+5->XN s.heap h'->Q (.ref (s.heap.objs.size+4)) {s with heap:=h'}):
  wpAny (model prog w) A (call (.type "zip") [.ref l1,.ref l2]) Q E s:=
 callType_new PySem.F.called_zip bH (PySem.F.typeCall_zip_2 _ _) (PySem.F.newCall_zip_2 _ _) (λ obj=>PySem.F.args_object_init_3 obj _ _) PySem.F.entry_zip_new
  (yp l1 l2 xs ys) ⟨nK,nB,λ h' a b c=>⟨⟨_,a.1,rfl⟩,h h' a b c⟩⟩
end
def EP {z:Addr} {β:Type} [aaK α] [aaK β] {xs:List α} {ys:List β} {xv Z8:Array Value} {m1 m2:Nat} (hh:A.handled=none) (hl:xs.length=ys.length) (e1:xv.toList.length=xs.length) (D:ZipApart z TI TO i1 i2 l1 l2) (Y5:∀b∈S,∃o,aj.heap.get? b=some o)
  (ge:∀b∈[z,TI,TO,i1,i2],aj.heap.objs.size<=b) (nK:IsT (hide S aj.heap) l1 xv m1) (nB:IsL (hide S aj.heap) l2 Z8 m2) (Mm:AllP (hide S aj.heap) (xs.map is) xv.toList) (Mn:AllP (hide S aj.heap) (ys.map is) Z8.toList):
  zG A S aj z [z,TI,TO,i1,i2,l1,l2] [z,TI,TO,i1,i2] (xs.zip ys) is sy (λ i h=>EN z TI TO i1 i2 l1 l2 xv Z8 .none i h):=by
 exact {
 sub:=λ b hb=>bL [l1,l2] hb
 frame:=λ i h h' st hk=>by refine jG st λ a1 a2 gN a4 a5 abC XH=>?_;refine cS gN λ a b a3=>?_;exact ⟨hk _ di _ a1,hk _ (Ym _ di) _ a2,⟨a,b,hk _ (Ym _ (Ym _ di)) _ a3⟩,a4.at λ o e=>hk _ (Ym _ (Ym _ (Ym _ di))) o e,a5.at λ o e=>hk _ (Ym _ (Ym _ (Ym _ (Ym _ di)))) o e,abC.at λ o e=>hk _ (Ym _ (Ym _ (Ym _ (Ym _ (Ym _ di))))) o e,XH.at λ o e=>hk _ (by simp) o e⟩
 turn:=λ i hi aN hp s S' Q st le hw Wk k=>by
  refine jj hp λ es kk pp gj=>?_;subst gj;have Tt:i<xs.length:=by rw [List.length_zip] at hi;w_up
  have Tu:i<ys.length:=by rw [List.length_zip] at hi;w_up
  refine aK (Mm.get (i:=i) (P:=is xs[i]) (by rw [List.getElem?_map,List.getElem?_eq_getElem Tt];rfl)) λ u h1 h2=>?_;refine aK (Mn.get (i:=i) (P:=is ys[i]) (by rw [List.getElem?_map,List.getElem?_eq_getElem Tu];rfl)) λ v g1 g2=>?_;refine Ks D st (by simpa using h1) (by simpa using g1) λ dg Kv P4 kp=>cV _ rfl ?_;refine wpAny_letOwnedTupleGo_zip Kv.1 λ dJ Gj sb=>?_;have hT:∀c o,s.heap.get? c=some o->c≠s.heap.objs.size:=λ c o e q=>by have:@LT.lt Nat _ c s.heap.objs.size:=Heap.lt_size e;have q:@Eq Nat c s.heap.objs.size:=q;w_up
  have bq:∀b o,b∉([z,TI,TO,i1,i2]:List Addr)->s.heap.get? b=some o->dJ.get? b=some o:=λ b o n e=>by have n2:=f3 (f3 n);exact sb.extBut _ _ (fb n) (kp b o (fb n) (fb n2) (fb (f3 n2)) (fb (f3 (f3 n2))) e)
  have Wl:s.heap.objs.size≠z:=Ne.symm (hT _ _ st.1);have P5:dJ.get? s.heap.objs.size=some {cls:=.type "tuple",data:=.seq #[u,v]}:=sb.extBut _ _ Wl P4;have Ox:s.heap.objs.size∉S':=eO Wk (Nat.le_refl _);have z3:XN (hide S aj.heap) (hide S' dJ):=le.trans (b5 λ b o nb e=>bq b o (λ m=>nb (hw b m)) e);refine jG Kv λ b1 b2 kc abw YR YY aae=>?_;refine cS kc λ a b XR=>?_;refine k _ dJ _ ?_ ⟨Gj,sb.extBut _ _ D.TIz b2,⟨a,b,sb.extBut _ _ D.TOz XR⟩,abw.at λ o e=>sb.extBut _ _ D.i1z e,YR.at λ o e=>sb.extBut _ _ D.i2z e,YY.at λ o e=>sb.extBut _ _ D.l1z e,aae.at λ o e=>sb.extBut _ _ D.l2z e⟩ bq;rw [List.getElem_zip];refine kS.mpr ⟨s.heap.objs.size,#[u,v],0,rfl,?_,?_⟩
  ·show Heap.get? _ _=_;rw [bI,if_neg Ox];exact P5
  ·exact iJ ((is _).mono z3 h2) ((is _).mono z3 g2) trivial
 done:=λ s Q E st k=>by
  have bl:(xs.zip ys).length=xs.length:=by rw [List.length_zip];w_up
  rw [bl] at st;refine Mh hh D st (by rw [<-e1];exact Array.getElem?_eq_none (Nat.le_refl _)) λ dg hx=>?_;exact k dg _ λ b o n e=>by exact hx b o (fb n) (fb (f3 (f3 (f3 n)))) e
 self:=λ i s Q E st k=>wpAny_pyIter_zip st.1 k
 live:=λ i h st=>by refine jG st λ a1 a2 rl Dm Dn abC XH=>?_;refine cS rl λ a b' a3=>?_;refine aK Dm λ o1 a4 ξ=>?_;refine aK Dn λ o2 a5 ξ=>?_;exact gg ⟨_,a1⟩ (gg ⟨_,a2⟩ (gg ⟨_,a3⟩ (gg ⟨o1,a4⟩ (gg ⟨o2,a5⟩ qV))))
 new:=λ b hb=>get_none (ge b hb)
 out:=λ b hb=>(List.mem_append (s:=[z,TI,TO,i1,i2]) (t:=[l1,l2]).mp hb).elim (λ m=>eO Y5 (ge b m)) (gg (p:=(·∉S)) (mr nK) (gg (mr nB) qV) b)
 r8:=λ b hb hn=>(List.mem_append (s:=[z,TI,TO,i1,i2]) (t:=[l1,l2]).mp hb).elim (λ m=>absurd m hn) (gg (p:=λ c=>∃o,(hide S aj.heap).get? c=some o) ⟨_,nK⟩ (gg ⟨_,nB⟩ qV) b)}
def Kw {β:Type} [aaK α] [aaK β] {xs:List α} {ys:List β} {en:Str} {ep:Pos} {aE:List Expr} (hh:A.handled=none) (hl:xs.length=ys.length) (he:Ev A sc ρ (.Name en ep) (lit (.type "zip"))) (ha:nE A sc ρ aE [is (jS.mk xs),is ys]) (hp:eT aE):
  jP A sc ρ (.Call (.Name en ep) aE [] cp) (xs.zip ys) is sy:=λ S aa s c=>by
 refine oA he c hp trivial λ az t8 qX=>?_;refine Zh (ha S aa _ az qX) (λ vs aj q=>?_) eY;refine cO q λ k₁ pv=>?_;have c₁:=qX.mono (kle k₁);refine bU pv.two λ v u gM p1 p2=>?_;subst gM;refine ⟨c₁.top.mono ao,?_⟩;refine bw (is_tup.mp p1) λ l1 xv m1 fN nK Mm=>?_;subst fN;refine bw (is_list.mp p2) λ l2 Z8 m2 fO nB Mn=>?_;subst fO;have e1:=Mm.length;rw [Array.length_toList,lm] at e1;have e2:=Mn.length;rw [Array.length_toList,lm] at e2;have Tv:=mU (ao _ _ nK);have Tw:=ed (ao _ _ nB);have Tz:@LT.lt Nat _ l1 aj.heap.objs.size:=Heap.lt_size (ao _ _ nK);have TA:@LT.lt Nat _ l2 aj.heap.objs.size:=Heap.lt_size (ao _ _ nB);refine AL Tv Tw λ h' hZ hsz kk=>?_;refine eX aj (aL t8 k₁) ⟨_,_,rfl,kk⟩ (wpAny_pyIter_zip hZ.1 ?_);have D:=PyProof.Rows.zipApart_new (n:=aj.heap.objs.size) Tz TA;have ge:∀k,∀b,b=aj.heap.objs.size+k->aj.heap.objs.size<=b:=λ k b q=>q▸Nat.le_add_right ..;refine ⟨cB _,_,_,_,_,rfl,EP hh hl e1 D c₁.b4 (λ b hb=>?_) nK nB Mm Mn,hZ,λ b hb=>?_⟩
 ·rcases cF hb with q|hb
  ·exact ge _ _ q
  rcases cF hb with q|hb
  ·exact ge _ _ q
  rcases cF hb with q|hb
  ·exact ge _ _ q
  rcases cF hb with q|hb
  ·exact ge 0 _ q
  ·exact ge _ _ (bj hb)
 ·show @LT.lt Nat _ b h'.objs.size;rw [hsz];simp only [List.mem_cons,List.not_mem_nil,or_false] at hb;rcases hb with q|q|q|q|q|q|q;all_goals
   have q:@Eq Nat b _:=q
   first
   |(have:=Tz;have:=TA;(first|lia|omega))
def Hr {g':Heap} (x:AllP g [] vs):AllP g' [] vs:=by
 cases vs with
 |nil=>trivial
 |cons _ _=>exact x.elim
def dz (aC:List (Tx×Bool)):List YJ:=aC.map λ r=>rB (dX r.1) r.2
def qu {aC:List (Tx×Bool)} (abx:cy 4 A) (hr:aC.length<=100) (hp:∀r∈aC,r.1.cs.length<=1000/\(dX r.1).cs.length<=2000):wu A (.ref 327) [is aC] dW dW (i8 (dz aC)):=λ aw az vs T fr abg hJ p=>by
 have hl:=br;have wi:317∈aw:=abg 317 (List.mem_singleton.mpr rfl);refine kI (ρ:=[("rows",is aC)]) (J:=dW) (F:=[317]) (o:=Ng) T fr abx p abl rfl aaT ⟨326,Nf,_,_,rfl,by rfl,rfl,rfl⟩ ["rows"]
  (mC (λ a=>by rfl)) abl abd abd hJ (λ b m=>by rw [bj m];exact ⟨wi,List.mem_singleton.mpr rfl⟩) λ A' Q' aa S s aY i0 hQ ξ ξ ξ f=>?_
 have tG:317∈S:=f.sub _ wi;refine YF (wpAny_Assign_Name (hs:=by rfl) ?_);show wpAny _ A' (do callWith _ (<-eval (.Name "Entry" _) aa) [] (backTo _ (starEach [] aa)) []) _ _ s;refine Z4 ((cI (A:=A') (v:=.ref 59) abd abd abl).use f.cx λ v aj k₁ c₁ aZ=>?_);rw [show v= .ref 59 from aZ];refine FG abl LG (wpAny_items_nil ⟨c₁.top.k.keeps ao,?_⟩);refine Zh (GW (S:=S) (aY.less (by w_up)) c₁.top c₁.b4) (λ v aA q=>?_) eY;obtain ⟨cX,x,dx,L,qm,hn,LC,uL,fg,jp⟩:=q;refine bu cX λ dJ CH Ci k₂=>?_;subst Ci;subst qm;have f:=f.keep k₁;have XI:=f.jp;obtain ⟨c7,Jr,NN,aaS,al⟩:=jp;refine aK c7 λ m I hm=>?_;have lives:∀b∈[x,dx,L],∃o,dJ.get? b=some o/\∀vs,o.data≠ .fields vs:=λ b hb=>by
  rcases cF hb with rfl|hb
  ·exact cV _ I.at_ (λ vs q=>nomatch q)
  ·rcases cF hb with rfl|hb
   ·exact qE I.ns
   ·rw [bj hb];exact cV _ aaS (λ vs q=>nomatch q)
 have P6:dW.p (hide S dJ) dJ:=dW.st (aJ k₂) ao ao (λ b ξ o e=>k₂ _ _ e) XI;have f:=f.step (D:=[]) (N:=[x,dx,L]) (aa_:=dW.and (uf x dx L [])) (tk:=CH) (λ b m=>nomatch m) (λ b o ξ e=>k₂ b o e) (λ b m=>nomatch m) hn (λ b hb=>let ⟨o,e,_⟩:=lives b hb;⟨o,e⟩)
  ⟨tF P6 lives,⟨m,I,hm⟩,Jr,NN,aaS,Hr al⟩ (λ b m=>bR m)
 have Yq:∀b∈[x,dx,L],b≠317:=λ b hb q=>by refine aK XI λ ps e ξ=>?_;rw [q] at hb;rw [hn 317 hb] at e;cases e
 refine f.store (z:="record") (P:=lit (.ref x)) abd rfl λ aH f=>?_;refine jW f.cx aR (eG ⟨_,rfl⟩ ?_);refine Attribute_name ((af (A:=A') (P:=lit (.ref x)) abl abd abd abd).use f.cx λ v bS nP lO oY=>?_);rw [show v= .ref x from oY];have f:=f.keep nP;obtain ⟨XI,dI,Wm,W6,aaS,al⟩:=f.jp;refine aK dI λ m I hm=>?_;refine ko (attr:=none) wz (lO.top.k.keeps ao) I abl abl hm.1 abl ?_;intro pl;refine getMethod_builtin ⟨_,aaS,rfl⟩ PySem.F.plainAttrs_list PySem.F.slot_list_extend PySem.F.type_list_extend (λ a q=>by cases q;exact cV _ aaS rfl) ?_;have f:=f.keep (dG bS (bS.toks+1));refine eg abl (j7 (he:=by rfl) ?_);refine BI (sc:=(gE (fk 31)).names) (ai:=aC) (abL:=is) (R:=λ r=>rB (dX r.1) r.2) (X:=dW) (β:=λ r=>[("allowed",is r.2),("page",is r.1)]) (Ok:=Plain) bV (bZ (xs:=aC) aY.handled af) (λ ξ ξ=>rfl) (by w_up) (.tup _ _ _)
  (λ r ξ=>jn.conv (mh (xs:=[(_,_),(_,_)]) (YN:=[is r.1,is r.2]) aY.handled rfl abd) λ ξ ξ=>kS.mp)
  (λ r TB S' cenv s' cx Wn Tg=>?_) f.cx (λ b m=>by rw [bj m];exact bC _ tG) f.jp.1 λ D bY h9 Zw Kx lp=>?_
 ·show wpAny _ A' (do callWith _ (<-eval (.Name "_law_line" _) cenv) [] (backTo _ (starEach [_,_] cenv)) []) _ _ s';refine Z4 ((cI (A:=A') (v:=.ref 322) abd abd abl).use cx λ v dK fz pY oZ=>?_);rw [show v= .ref 322 from oZ];refine FG abl abl (Zh ((au (P:=is r.1) af (au (P:=is r.2) af aB)) _ _ _ dK pY) (λ vs dT q=>⟨(pY.mono (kle q.1)).top.k.keeps ao,?_⟩) eY);have wI:=pY.mono (kle q.1);refine Zh (z9 aY (hp r TB).1 (hp r TB).2 S' dT vs wI.top wI.b4 Wn (dW.st (aJ (kle (aL fz q.1))) ao ao (λ b ξ o e=>kle (aL fz q.1) _ _ e) Tg) q.2) (λ v mS z=>⟨(abO.of (aL fz q.1)).trans z.1,z.2⟩) dp
 ·refine cS h9.same λ k6 FL xy=>?_;subst xy;have TF:∀b∈[x,dx,L],b∉[317]:=λ b hb m=>Yq b hb (bj m);have aam:=f.jp.2;have Hs:∃o,k6.get? 317=some o:=by refine aK Kx λ ps e ξ=>?_;exact ⟨_,e⟩
  have Ai:=iZ (S:=[x,dx,L]++S) (D:=[317]) (N:=[]) (in1 (bC _ tG)) (λ b o n e=>h9.keep b o n e) (λ b m=>nomatch m);have f:=f.step (D:=[317]) (N:=[]) (aa_:=dW.and (uf x dx L [])) (tk:=FL) (in1 (bL _ (List.mem_singleton.mpr rfl))) (λ b o n e=>h9.keep b o n e) (in1 Hs) (λ b m=>nomatch m) (λ b m=>nomatch m)
   ⟨Kx,(uf x dx L []).st Ai ao ao (λ b hb o e=>h9.keep b o (TF b hb) e) aam⟩ (λ b m=>.inl m)
  refine wpAny_items_nil ⟨trivial,?_⟩;obtain ⟨_,eK,DH,NW,aaS,al⟩:=f.jp;refine aK eK λ m I hm=>?_;have ev:DH=#[]:=by have:=al.length;rw [Array.length_toList] at this;exact Array.eq_empty_of_size_eq_zero this
  subst ev;refine bw lp λ Da rU N1 m6 dl Ma=>?_;cases m6;have hsz:rU.size<=100:=by have:=Ma.length;rw [Array.length_toList,lm] at this;w_up
  have Je:IsL k6 D rU N1:=ao _ _ dl;refine call_meets PySem.F.slot_list_extend ⟨_,aaS,rfl⟩ PySem.F.entry_list_extend (PySem.F.args_list_extend_2 _ _) (PySem.AutoSeq1.list_extend_list_list_0 L #[] NW D rU N1 (by simp) (Nat.zero_le _) (by simp;w_up)) ⟨aaS,Je,?_⟩;refine ⟨λ a q=>(nomatch q),?_⟩;have iy:=Heap.get?_update_self (Obj.mapSeq λ x=>x++rU) aaS rfl;have hs:Heap.SameBut L k6 (k6.update L (Obj.mapSeq λ x=>x++rU)):=Heap.SameBut.update ..;generalize k6.update L (Obj.mapSeq λ x=>x++rU)=BG at iy hs;have I7:L∈(dW.and (uf x dx L [])).fp:=bC _ (Ym _ (Ym _ di));have abz:XN (hide ([x,dx,L]++S) k6) (hide ([x,dx,L]++S) BG):=b5 λ b o n e=>(hs.2 b λ q=>n (q▸(f.aar _ I7).1)).trans e;have f:=f.mut (b:=L) (aa_:=dW.and (uf x dx L (dz aC))) (h':=BG) (tk:=FL) I7 hs ⟨_,iy⟩
   ⟨dW.st abz ao ao (λ b hb o e=>(hs.2 b λ q=>by rw [bj hb] at q;exact Yq L (Ym _ (Ym _ di)) q.symm).trans e) f.jp.1,⟨m,I.keeps (λ b o q e=>(hs.2 b λ z=>by rcases q with q|q<;>rw [q] at z;exact LC z.symm;exact uL z.symm).trans e),hm⟩,_,_,iy,by have:=Ma.mono abz;show AllP _ _ (#[]++rU).toList;rw [Array.empty_append];exact this⟩ (λ b m=>m)
  refine dO f (P:=lit (.ref x)) af λ v dT f sD=>?_;rw [show v= .ref x from sD];have sub:=f.sub;have old:∀b∈[x,dx,L],b∉aw:=λ b hb m=>by
   refine aM (fr b m) λ o e=>?_;rcases (f.aar b (bC _ hb)).2.2.2 with q|q
   ·exact TF b hb q
   ·rw [e] at q;cases q
  have Ab:∀b o,b∈[x,dx,L]->dT.heap.get? b=some o->(hide aw dT.heap).get? b=some o:=λ b o n e=>by rw [bI,if_neg (old b n)];exact e
  refine hQ _ _ ⟨f.aaH,dW.st (cT sub) ao ao (λ ξ ξ ξ e=>e) f.jp.1,x,dx,L,rfl,?_⟩;obtain ⟨il,P7,TG,P8,P9⟩:=f.jp.2;refine aK il λ m I hm=>?_;exact uX ⟨m,⟨Ab _ _ di I.at_,I.ns.at λ o e=>Ab _ _ (Ym _ di) e,I.ne⟩,hm⟩ P7 TG (Ab _ _ (Ym _ (Ym _ di)) P8) (P9.mono (cT sub))
def gY (x:Tx) (b:Int×Bool) (r:Tx×Bool):Int×Bool:=
 let m:=i6 (dX r.1) x
 if m≠0 then (if m>b.1 then (m,r.2) else if m=b.1/\b.2=false then (b.1,r.2) else b) else b
def ie (x:Tx) (aC:List (Tx×Bool)):Int×Bool:=aC.foldl (gY x) (-1,true)
def yq (hz:Ev A sc ρ (.Name z YA) (i8 YN)):Ev A sc ρ (.Attribute (.Name z YA) "rulelines" ar) (cH YN):=λ S aa s c=>
 Attribute_name (hz.use c λ v aj k₁ c₁ aZ=>by obtain ⟨x,dx,L,cX,qm,vs,n,aaS,al⟩:=aZ;subst cX;refine aK qm λ m I hm=>?_;refine ko (attr:=none) wz (c₁.top.k.keeps ao) (I.keeps λ b o ξ e=>ao _ _ e) abl abl hm.1 abl ⟨aL k₁ (dG _ _),L,vs,n,rfl,aaS,al⟩)
def yr {aC:List (Tx×Bool)} {x:Tx} (abx:cy 2 A) (hr:aC.length<=100) (hx:x.cs.length<=10000):fJ A (.ref 56) [i8 (dz aC),is x] (is (ie x aC).2):=by
 have hl:=br;refine ju (n:=1) (ρ:=[("self",i8 (dz aC)),("filename",is x)]) (o:=QL) abl rfl aaT ⟨55,QK,_,_,rfl,by rfl,rfl,rfl⟩ abx (pX λ a b=>by rfl) ["self","filename"] rfl abd abd ?_;intro aw az aa S s A' aY f;refine aU f (P:=is (-1:Int)) (qC bX) abd aR λ aj f=>?_;refine aU f (P:=is true) u9 abd aR λ aA f=>?_;refine lC (ai:=aC) (abL:=λ r=>rB (dX r.1) r.2) (Ok:=Plain) (β:=λ r=>[("line",rB (dX r.1) r.2)])
  (f9:=λ i=>[("self",i8 (dz aC)),("filename",is x),("best_match",is (ie x (aC.take i)).1),("allowance",is (ie x (aC.take i)).2)]) (ZH:=λ ξ=>Y8) (lT:=[("allowance",is (ie x aC).2)]) (aap:=Y8)
  f (ay abl (ay abl (ay abl (ay abl bO)))) (vL aY.handled (yq af)) (.name _ _) (λ ξ=>rfl) (λ b ξ=>bB abd) (λ ξ ξ h=>h) (λ ξ h=>h) ?_
  (λ S' s' f=>by rw [List.take_length] at f;exact f.ek (ay abl bO)) λ aH f=>dO f (P:=is (ie x aC).2) af λ v bS f' p=>f'.gc (F:=[]) p
 intro i hi K S' aH hK f;refine Yj λ Q hQ=>?_;have hs:ie x (aC.take (i+1))=gY x (ie x (aC.take i)) aC[i]:=by
  have:aC.take (i+1)=aC.take i++[aC[i]]:=by rw [List.take_add_one];simp [hi]
  rw [this];unfold ie;rw [List.foldl_append];rfl
 generalize hb:ie x (aC.take i)=b at*;generalize hr:aC[i]=r at*;refine aU f (P:=is (i6 (dX r.1) x)) (BE (aY.less (by w_up)) hx af af aR aR (λ ξ=>⟨_,rfl⟩)) abd aR λ bS f=>?_;have fin:∀{N2:eV} {gh:Shared},YH [("self",i8 (dz aC)),("filename",is x),("best_match",is (gY x b r).1),("allowance",is (gY x b r).2)] N2->YQ (gE (nc 2 3)).names (ownOf (gE (nc 2 3))) [] aw az aa N2 (K.and Y8) S' gh->
   YQ (gE (nc 2 3)).names (ownOf (gE (nc 2 3))) [] aw az aa [("self",i8 (dz aC)),("filename",is x),("best_match",is (ie x (aC.take (i+1))).1),("allowance",is (ie x (aC.take (i+1))).2)] (K.and Y8) S' gh:=λ lk f=>by rw [hs];exact f.ek lk
 generalize hm:i6 (dX r.1) x=m at*;refine f6 f (b:=m !=0) (cM af Li aR) (λ Qa bY f=>?_) (λ Qa bY f=>?_)
 ·have h1:m≠0:=by simpa using Qa
  refine f6 f (b:=decide (m>b.1)) (bg (aV:=is m) (a6:=is b.1) af af Di abl) (λ Ky dK f=>?_) (λ Ky dK f=>?_)
  ·have e:gY x b r=(m,r.2):=by unfold gY;rw [hm];simp only [];rw [if_pos h1,if_pos (by simpa using Ky)]
   refine aU f (P:=is m) af abd aR λ dT f=>?_;refine aU f (P:=is r.2) (q2 af) abd aR λ mS f=>?_;exact bf (bf (bf (hQ .next _ (fin (by rw [e];exact ay abl (ay abl (ay abl (ay abl bO)))) f))))
  ·have h2:¬m>b.1:=by simpa using Ky
   refine f6 f (b:=decide (m=b.1)&&(!b.2&&true)) (fo (gm (bg (aV:=is m) (a6:=is b.1) af af (iE aY bH) abl) λ ξ=>gm (l7 (cM (P:=is b.2) af gk aR)) λ ξ=>g9)) (λ Qc dT f=>?_) (λ Qc dT f=>?_)
   ·have h3:m=b.1/\b.2=false:=by simpa using Qc
    have e:gY x b r=(b.1,r.2):=by unfold gY;rw [hm];simp only [];rw [if_pos h1,if_neg h2,if_pos h3]
    refine aU f (P:=is r.2) (q2 af) abd aR λ mS f=>?_;exact bf (bf (bf (bf (hQ .next _ (fin (by rw [e];exact ay abl (ay abl (ay abl (ay abl bO)))) f)))))
   ·have h3:¬(m=b.1/\b.2=false):=λ q=>by simp [q.1,q.2] at Qc
    have e:gY x b r=b:=by unfold gY;rw [hm];simp only [];rw [if_pos h1,if_neg h2,if_neg h3]
    exact bf (bf (bf (bf (hQ .next _ (fin (by rw [e];exact ay abl (ay abl (ay abl (ay abl bO)))) f)))))
 ·have h1:¬m≠0:=by simpa using Qa
  have e:gY x b r=b:=by unfold gY;rw [hm];simp only [];rw [if_neg h1]
  exact bf (bf (hQ .next _ (fin (by rw [e];exact ay abl (ay abl (ay abl (ay abl bO)))) f)))
def yt:GM A (i8 YN) "allowance" (.ref 56):=λ s v pl Q E p T q=>by obtain ⟨x,dx,L,c7,xd,vs,n,aaS,al⟩:=p;subst c7;refine aK xd λ m I hm=>?_;exact wy wz T.k I abl abl hm.2 q
section
variable {P H xs:List Tx}
def Mp (hp:ah.Nodup) (v:Inv ah aq σ P H []) (hs:∀x∈xs,x∈H) (hn:xs.Nodup):∀i (hi:i<xs.length),∃e∈(eQ σ (xs.take i)).es,e.nd.node=xs[i]/\e.nd.np=-1:=λ i hi=>by
 have w:=sV hp (xs.take i) σ P H [] v (λ x hx=>hs x (List.mem_of_mem_take hx)) (hn.sublist (List.take_sublist ..));have hx:xs[i]∈H:=hs _ (List.getElem_mem hi);have JT:xs[i]∉xs.take i:=λ m=>by obtain ⟨j,hj,e⟩:=List.mem_take_iff_getElem.mp m;have:=(List.getElem_inj hn).mp e;w_up
 obtain ⟨e,q,he,By⟩:=w.vw.ent (v.Yk _ hx);refine eX e he By ((w.vw.val e he).1.trans ?_);rw [By];unfold q9;have h1:xs[i]∉P++xs.take i:=λ m=>(bR m).elim (λ m=>v.Kf _ m hx) JT;rw [if_neg h1,if_pos (List.mem_filter.mpr ⟨hx,by simpa using JT⟩)]
def Ht (g:lq ah t aq) (v:Inv ah aq σ P H G):∀e∈σ.es,e.nd.succ.length<=30/\∀y∈e.nd.succ,∃e'∈σ.es,e'.nd.node=y:=λ e he=>by rw [(v.vw.val e he).2];refine ⟨?_,λ y hy=>(v.vw.has y).mp (l4.mp hy).1⟩;have:=List.length_filter_le (λ p=>!decide (p=aF)&&decide (cE aq p=e.nd.node)) ah;have:=g.len;unfold kids;w_up
end
def ER {R:Addr} {x:Tx} {np:Pos} {aE:List Expr} (abx:cy 2 A) (hA:A.frames=some (aa::aT)) (fv:aa.frame=some aa.locals) (abF:iQ aT os) (hR:σ.R=some R) (hp:lh x) (bl:x.cs.length<=1000)
  (hc:∀e,jk σ x=some e->0<=e.nd.np\/e.nd.np=-2) (f:YQ sc ak F aw az aa ρ (K.and (L.and ((bK os).and (b8 σ)))) S s) (Qd:∀b∈K.fp,b∉dh os) (Qe:∀b∈L.fp,b∉dh os) (mK:∀b∈σ.all,b∉dh os)
  (hg:Ev A sc ρ (.Name fn np) (lit (.ref 334))) (ha:nE A sc ρ aE [lit (.ref σ.D),is x]) (uV:eT aE) (hx:cw ak sc z=true)
  (hs:∀aa:Env,aa.scope.kind= .function->aa.scope.names=sc->swapsWith (.Call (.Name fn np) aE [] be) (some (.Name z YA)) ar.line aa=pure false)
  (k:∀s',YQ sc ak F aw az aa ((z,is (dY σ x))::ρ) (K.and (L.and ((bK os).and (b8 σ)))) S s'->wpAny (model XX w) A (execs aD aa) Q E s'):
  wpAny (model XX w) A (execs (.Assign [.Name z YA] (.Call (.Name fn np) aE [] be) ar::aD) aa) Q E s:=by
 refine YF (wpAny_Assign_Name (hs:=hs aa f.cx.kind f.cx.names) ?_);show wpAny _ A (do callWith _ (<-eval (.Name fn _) aa) [] (backTo _ (starEach aE aa)) []) _ _ s;refine Z4 (hg.use f.cx λ v aj k₁ c₁ aZ=>?_);rw [show v= .ref 334 from aZ];refine eg (uV aa be) (Zh (ha S aa be aj c₁) (λ vs aA q=>⟨⟨_,_,ao _ _ ((c₁.mono (kle q.1)).top.k 334 _ abl),rfl⟩,?_⟩) eY);have bh:=(f.keep (aL k₁ q.1));refine bU q.2.two λ v u d6 p1 p2=>?_;subst d6;rw [show v= .ref σ.D from p1];have X:=bh.jp.2.2.2;have De:∀b∈σ.all,b∈S/\b≠aa.locals:=λ b m=>by refine eU (bh.aar b (bC _ (bC _ (bC _ m)))) λ a1 a2 ξ=>?_;exact ⟨a1,a2⟩
 have Ct:∀b,b∈S->b∉σ.all->b∈iI S σ.all:=λ b h1 h2=>List.mem_filter.mpr ⟨h1,by simpa using h2⟩;refine bh.Tn.Au (S':=iI S σ.all) (YN:=[gI σ,is x]) (P:=is (dY σ x)) (λ b m=>?_) abF fv rI (λ b m=>Ct b (bh.Tn.aar b (bC _ m)).1 λ q=>mK b q m) (Ct _ bh.Zt.loc λ q=>(De _ q).2 rfl)
  (λ qj lD=>Cj hR abx hA lD hp bl hc) ⟨⟨rfl,X.gV λ b m o e=>kr m e⟩,mE p2,trivial⟩ λ v aH f pv=>?_
 ·rcases bR m with m|m
  ·exact Qd b m
  ·rcases bR m with m|m
   ·exact Qe b m
   ·exact mK b m
 exact f.Wf.store hx (mE pv) k
def Qf {y:Str} {YU:Pos} {aE:List Expr} {g:Addr} (f:YQ sc ak F aw az aa ρ (K.and (L.and ((bK os).and (b8 σ)))) S s) (j0:∀b∈σ.all,b∉(K.and (L.and (bK os))).fp) (iP:σ'.all=σ.all) (hz:Ev A sc ρ (.Name y YU) (lit (.ref σ.D)))
  (hf:findIn (Mine.KK w.params) (.ref 179) name=some (some (.ref g))) (ht:typeIn (Mine.KK w.params) (.ref g)=some (.type "function")) (hk:vh (.ref g)) (hn:name∉l0) (ha:nE A sc ρ aE YN) (hp:eT aE)
  (he:∃pl:Sem Bool,eval (.Call (.Attribute (.Name y YU) name ap) aE [] be) aa=(do
   let ov<-eval (.Name y YU) aa
   standAt ap.atName
   let (f,first)<-holding [ov] (getMethod ov name pl)
   callWith be f first (backTo be (starEach aE aa)) []))
  (op:LJ A g σ σ' YN P) (hx:cw ak sc z=true)
  (hs:∀aa:Env,aa.scope.kind= .function->aa.scope.names=sc->swapsWith (.Call (.Attribute (.Name y YU) name ap) aE [] be) (some (.Name z YA)) ar.line aa=pure false)
  (k:∀s',YQ sc ak F aw az aa ((z,P)::ρ) (K.and (L.and ((bK os).and (b8 σ')))) S s'->wpAny (model XX w) A (execs aD aa) Q E s'):
  wpAny (model XX w) A (execs (.Assign [.Name z YA] (.Call (.Attribute (.Name y YU) name ap) aE [] be) ar::aD) aa) Q E s:=
 YF (wpAny_Assign_Name (hs:=hs aa f.cx.kind f.cx.names) (zq f.toS j0 iP hz hf ht hk hn ha hp he op λ v s' f ξ pv=>f.PX.store hx pv k))
def Kz {y:Str} {YU:Pos} {R:Addr} {xs:List Tx} (f:YQ sc ak F aw az aa ρ (K.and (L.and ((bK os).and (b8 σ)))) S s) (j0:∀b∈σ.all,b∉(K.and (L.and (bK os))).fp) (hz:Ev A sc ρ (.Name y YU) (lit (.ref σ.D)))
  (hR:σ.R=some R) (abx:cy 1 A) (hr:σ.bG.length<=30) (Wo:xs.length<=30) (O6:∀e∈σ.es,e.nd.succ.length<=30/\∀y∈e.nd.succ,∃e'∈σ.es,e'.nd.node=y)
  (ou:∀i (hi:i<xs.length),∃e∈(eQ σ (xs.take i)).es,e.nd.node=xs[i]/\e.nd.np=-1) (ha:Ev A sc ρ aS (is xs)) {sp:Pos}
  (he:eval (.Call (.Attribute (.Name y YU) "done" ap) [.Starred aS sp] [] be) aa=(do
   let ov<-eval (.Name y YU) aa
   standAt ap.atName
   let (f,first)<-holding [ov] (do pure (<-getAttr ov "done" true,[]))
   let CJ<-pure be
   callWith CJ f first (backTo CJ (starEach [.Starred aS sp] aa)) []))
  (gP:∀aa:Env,aa.scope.kind= .function->aa.scope.names=sc->swapsWith (.Call (.Attribute (.Name y YU) "done" ap) [.Starred aS sp] [] be) none ar.line aa=pure false)
  (k:∀s',YQ sc ak F aw az aa ρ (K.and (L.and ((bK os).and (b8 (eQ σ xs))))) S s'->wpAny (model XX w) A (execs aD aa) Q E s'):
  wpAny (model XX w) A (execs (.Expr (.Call (.Attribute (.Name y YU) "done" ap) [.Starred aS sp] [] be) ar::aD) aa) Q E s:=by
 refine jW f.cx gP ?_;rw [he];refine Z4 (hz.use f.cx λ v aj k₁ c₁ aZ=>Z4 (ig (Z4 (XG (Z4 ?_)))));rw [show v= .ref σ.D from aZ];have bN:=(f.keep k₁).toS;refine jj bN.jp.2.inst λ m t1 t2 I=>?_;refine CG (f:=162) jV (bN.cx.top.k.keeps ao) I.inst abl abl abl abl bH (by
  cases e:m "done" with
  |none=>rfl
  |some v=>exact absurd (I.Xz "done" (by rw [e];simp)) bH) λ tk=>?_
 refine X5 (Z4 (X5 ?_));have hq:(aj.heap.push (methodObj (.ref 162) (.ref σ.D))).get? aj.heap.objs.size=some (methodObj (.ref 162) (.ref σ.D)):=Heap.get?_push_size _ rfl;have bh:=bN.keep (gK aj (methodObj (.ref 162) (.ref σ.D)) tk);refine Kl (s:={aj with heap:=aj.heap.push (methodObj (.ref 162) (.ref σ.D)),toks:=tk}) ha bh.cx (by w_up) hq ⟨_,_,by rfl,rfl⟩ λ vs aA k₂ pv=>?_;have dC:=bh.keep k₂;have hS:∀b∈σ.all,b∈S:=λ b m=>(dC.aar b (bC _ m)).1;refine codeAny_mono (yf S aA hR abx hr Wo O6 ou _ dC.cx.top dC.cx.b4 hS dC.jp.2 ⟨rfl,pv⟩) λ r aH q=>?_;cases r with
 |error e=>exact q.elim
 |ok fl=>cases fl with
  |ret v=>
   refine eU q λ aaH X' pv=>?_;rw [fe.mp pv];refine ⟨(λ a e=>by cases e),?_⟩;refine cS aaH.same λ h' DM eK=>?_;subst eK;have le:=iZ (S:=S) (N:=[]) hS aaH.keep (λ b m=>nomatch m);have fB:=dC.step (N:=[]) (D:=σ.all) (tk:=DM) (aa_:=(K.and (L.and (bK os))).and (b8 (eQ σ xs))) (λ b m=>bC _ m) aaH.keep (λ b m=>let ⟨o,e⟩:=dC.cx.b4 b (hS b m);aaH.live b o e) (λ b m=>nomatch m) (λ b m=>nomatch m)
    ⟨(K.and (L.and (bK os))).st le ao ao (λ b m o e=>aaH.keep b o (λ q=>j0 b q m) e) dC.jp.1,X'⟩ λ b m=>by
     rcases bR m with m|m
     ·exact .inl (bL _ m)
     ·exact .inl (bC _ (show b∈σ.all by rw [<-(rK xs σ).all];exact m))
   exact k _ fB.PX
  |_=>exact q.elim
def KA {a b c:Str} (h:∀v u y,bindArgs fd ⟨[v,u,y],[]⟩=pure [(a,v),(b,u),(c,y)]):kH fd [gZ,aV,a6] [(a,gZ),(b,aV),(c,a6)]:=pM λ s vs e=>by refine jj (NB e) λ v u y q=>?_;subst q;exact ⟨_,BindsTo.of_eq (h v u y),λ h p=>⟨rfl,p.1,rfl,p.2.1,rfl,p.2.2.1,trivial⟩⟩
def xA {β:Type} [aaK α] [aaK β] {u:α} {v:β} {a b:Str} {pa:Pos} (hh:A.handled=none) (ha:cw ak sc a=true) (hb:cw ak sc b=true):jn A sc ak (.Tuple [.Name a pa,.Name b pb] k ar) (is (u,v)) [(b,is v),(a,is u)]:=
 λ ρ S aa s z Q E c o p h=>mh (xs:=[(a,pa),(b,pb)]) (YN:=[is u,is v]) hh rfl (λ x m=>by
  rcases cF m with rfl|m
  ·exact ha
  ·rw [bj m];exact hb) ρ S aa s z Q E c o (kS.mp p) h
def KB {e5:Expr} {xB Gk Gl:YJ} (c:XK sc ρ S aa s.heap) {e1 e2 e3 e4:Expr} (he:es=[e1,e2,e3,e4,e5]) (h1:Ev A sc ρ e1 aV) (h2:Ev A sc ρ e2 a6) (h3:Ev A sc ρ e3 xB) (h4:Ev A sc ρ e4 Gk)
  (gu:∀aa,starEach es aa=(false,eval e1 aa)::starEach [e2,e3,e4,e5] aa) (s2:∀aa,starEach [e2,e3,e4,e5] aa=(false,eval e2 aa)::starEach [e3,e4,e5] aa) (s3:∀aa,starEach [e3,e4,e5] aa=(false,eval e3 aa)::starEach [e4,e5] aa)
  (ZQ:∀aa,starEach [e4,e5] aa=(false,eval e4 aa)::starEach [e5] aa) (aaO:∀aa,starEach [e5] aa=(false,eval e5 aa)::starEach [] aa)
  (h5:∀aj,Keeps s aj->wpAny (model XX w) A (eval e5 aa) (λ v s'=>Keeps aj s'/\Gl.p (hide S s'.heap) v) dj aj):wpAny (model XX w) A (eval (.Tuple es k ar) aa) (End S (f5 [aV,a6,xB,Gk,Gl]) s) dj s:=by
 have hl:=br;subst he;refine wpAny_Tuple ?_;refine j7 (he:=gu aa) (h1.use c λ v1 t1 k1 c1 p1=>?_);refine j7 (he:=s2 aa) (h2.use c1 λ v2 t2 k2 c2 p2=>?_);refine j7 (he:=s3 aa) (h3.use c2 λ YT t3 k3 c3 p3=>?_);refine j7 (he:=ZQ aa) (h4.use c3 λ v4 t4 aaI aaJ p4=>?_);have t8:=aL (aL (aL k1 k2) k3) aaI;refine j7 (he:=aaO aa) (Zh (h5 t4 t8) (λ abP t5 q=>wpAny_items_nil ?_) dp);refine cO q λ k5 YL=>?_;have abu:=aaJ.mono (kle k5);refine ⟨by show 5<=sizeLine;w_up,aL (aL t8 k5) ⟨_,_,rfl,λ ξ ξ e=>cN _ e⟩,_,_,_,rfl,eZ abu.b4 rfl,?_⟩;have up:XN (hide S t5.heap) (hide S (t5.heap.push {cls:=.type "tuple",data:=.seq [v1,v2,YT,v4,abP].toArray})):=aJ λ ξ ξ e=>cN _ e;have Wp:=kle k5;exact rY (aV.mono ((aJ (kle (aL (aL (aL k2 k3) aaI) k5))).trans up) p1) (a6.mono ((aJ (kle (aL (aL k3 aaI) k5))).trans up) p2) (xB.mono ((aJ (kle (aL aaI k5))).trans up) p3) (Gk.mono ((aJ Wp).trans up) p4) (Gl.mono up YL) trivial
abbrev TH:ly:=(gE (fk 33)).names
abbrev TJ:List Str:=ownOf (gE (fk 33))
def m7 (A:Around) (aa:Env) (F aw:List Addr) (az:Shared) (Q:Flow->Shared->Prop) (aT:List Env) (os:List (Addr×Obj)) (K:XW) (σ:bQ) (ah t a7 bJ past av cC kC gx:List Tx) (aq:List (Tx×Tx)) (ae:List Int) (aC:List (Tx×Bool)) (aW:List Turn) (KC:bQ) (D R:Addr) (b7:Tx) (act:Bool) (i:Nat):Prop:=∀{S:List Addr} {s:Shared} (g:lq ah t aq) (aY:cy 4 A) (i0:A.frames=some (aa::aT)) (fv:aa.frame=some aa.locals) (abF:iQ aT os) (Eo:∀p∈ah,(ie (cj p [⟨[]⟩]) aC).2=decide (p∈av)) (hr:aC.length<=100) (hn:0<ae.length) (jz:ae.length<=1000) (nO:i<ah.length) (KD:pick (fQ ah bJ) (numAt ae i)=b7) (zt:(!decide (a7=[])||!decide (bJ=[]))=act) (CK:cu av a7=cC) (ES:c9 av a7 bJ=kC) (yu:df cC kC (numAt ae i)=gx) (KE:dF σ=KC) (V:Inv ah aq σ past bJ a7) (xC:aW.length<=100) (hR:σ.R=some R) (sK:D∉K.fp) (zu:D∉σ.all) (Hu:D∉dh os) (mK:∀b∈σ.all,b∉dh os) (KG:∀b∈((bK os).and (b8 σ)).fp,b∉K.fp) (f:YQ TH TJ F aw az aa [("step",is (i:Int)),("turns",lit (.ref D)),("hand",is bJ),("sorter",lit (.ref σ.D)),("numbers",is ae),("record",i8 (dz aC)),("pages",is ah)] (K.and ((dc D (aW.map is)).and ((bK os).and (b8 σ)))) S s) (hQ:∀s',YQ TH TJ F aw az aa [("turns",lit (.ref D)),("hand",is (kC.filter λ c=>!decide (c∈gx))),("sorter",lit (.ref σ.D)),("numbers",is ae),("record",i8 (dz aC)),("pages",is ah)] (K.and ((dc D ((aW++[(⟨kB++b7++nY++wordsOf past b7,⟨a7⟩,cC,gx,says ([act,act]++fM av a7)⟩:Turn)]).map is)).and ((bK os).and (b8 (eQ KC (cC++gx)))))) S s'->Q .next s'),wpAny (model XX w) A (execs (J' ((m9 (fk 33)).drop 5)) aa) Q dj s
namespace walk_turn_v
def aau:=ev (U (U (U (U (U (U (U (U (U (U (U (U (U (U (U (U (U (U (U (U (U (U (U (U (U (U (U (U m7))))))))))))))))))))))))))))
def abN:=aau.1.1.1.1.1.1.1.1.1.1.1.1.1.1.1.1.1.1.1.1.1.1.1.1.1.1.1.1
def d7:=aau.1.1.1.1.1.1.1.1.1.1.1.1.1.1.1.1.1.1.1.1.1.1.1.1.1.1.1.2
def aaV:=aau.1.1.1.1.1.1.1.1.1.1.1.1.1.1.1.1.1.1.1.1.1.1.1.1.1.1.2
def lE:=aau.1.1.1.1.1.1.1.1.1.1.1.1.1.1.1.1.1.1.1.1.1.1.1.1.1.2
def lF:=aau.1.1.1.1.1.1.1.1.1.1.1.1.1.1.1.1.1.1.1.1.1.1.1.1.2
def XD:=aau.1.1.1.1.1.1.1.1.1.1.1.1.1.1.1.1.1.1.1.1.1.1.1.2
def j4:=aau.1.1.1.1.1.1.1.1.1.1.1.1.1.1.1.1.1.1.1.1.1.1.2
def j9:=aau.1.1.1.1.1.1.1.1.1.1.1.1.1.1.1.1.1.1.1.1.1.2
def ZT:=aau.1.1.1.1.1.1.1.1.1.1.1.1.1.1.1.1.1.1.1.1.2
def bT:=aau.1.1.1.1.1.1.1.1.1.1.1.1.1.1.1.1.1.1.1.2
def aX:=aau.1.1.1.1.1.1.1.1.1.1.1.1.1.1.1.1.1.1.2
def tz:=aau.1.1.1.1.1.1.1.1.1.1.1.1.1.1.1.1.1.2
def b3:=aau.1.1.1.1.1.1.1.1.1.1.1.1.1.1.1.1.2
def ew:=aau.1.1.1.1.1.1.1.1.1.1.1.1.1.1.1.2
def jb:=aau.1.1.1.1.1.1.1.1.1.1.1.1.1.1.2
def ez:=aau.1.1.1.1.1.1.1.1.1.1.1.1.1.2
def fc:=aau.1.1.1.1.1.1.1.1.1.1.1.1.2
def cU:=aau.1.1.1.1.1.1.1.1.1.1.1.2
def fG:=aau.1.1.1.1.1.1.1.1.1.1.2
def oQ:=aau.1.1.1.1.1.1.1.1.1.2
def aI:=aau.1.1.1.1.1.1.1.1.2
def KH:=aau.1.1.1.1.1.1.1.2
def b9:=aau.1.1.1.1.1.1.2
def rf:=aau.1.1.1.1.1.2
def ZA:=aau.1.1.1.1.2
def abv:=aau.1.1.1.2
def d4:=aau.1.1.2
def iT:=aau.1.2
def Yh:=aau.2
def Zk:m7 abN d7 aaV lE lF XD j4 j9 ZT bT aX tz b3 ew jb ez fc cU fG oQ aI KH b9 rf ZA abv d4 iT Yh:=by
 intro S s g aY i0 fv abF Eo hr hn jz nO KD zt CK ES yu KE V xC hR sK zu Hu mK KG f hQ;have hl:=br;have Mq:=g.len;refine eU (zp (xs:=aI) (i:=Yh) hn) λ n1 n2 ZV=>?_;have bl:=qs V;have Qd:∀b∈ZT.fp,b∉dh j9:=λ b m q=>KG b (bL _ q) m;have Qe:∀YN:List YJ,∀b∈(dc ZA YN).fp,b∉dh j9:=λ YN b m=>by rw [bj m];exact Hu
 have j0:∀YN:List YJ,∀b∈bT.all,b∉(ZT.and ((dc ZA YN).and (bK j9))).fp:=λ YN b m q=>by
  rcases bR q with q|q
  ·exact KG b (bC _ m) q
  ·rcases bR q with q|q
   ·rw [bj q] at m;exact zu m
   ·exact mK b m q
 refine aU f (P:=is (numAt aI Yh)) (cP (aV:=is aI) (a6:=is (((Yh:Int)).fmod (aI.length:Int))) af (c6 af (ba (f:=.builtin "len") (YN:=[is aI]) aQ (au af aB) aR trivial (dM (by w_up))) (iW (by w_up))) (dD n1 (by w_up) ZV) ty_list PySem.F.slot_list_getitem.lookup) abd aR λ j3 f=>?_;have TL:=Cz aX ew;have xD:=CA aX ew;refine aU f (P:=is (fQ aX ew)) (by
  rw [Gd];exact c6 (cK (ai:=aX) (abL:=is) (β:=λ c=>[("page",is c)]) (p:=λ p=>!decide (p∈ew)) (f:=λ c=>c) (Ok:=Plain) bV (bZ aY.handled af) (λ ξ ξ=>rfl) (by w_up) (.name _ _) (λ c ξ=>bB abd)
   (λ c tR=>e8 (bg (aV:=is c) (a6:=is ew) af af (jJ aY bH) abl)) (λ c ξ ξ=>af)) (cf (xs:=[aa8]) (au (cD aa8 abl) aB) (by rw [hl];decide)) (dm (by have:=List.length_filter_le (λ p=>!decide (p∈ew)) aX;rw [lm];have e:[aa8].length=1:=rfl;w_up))) abd aR λ nS f=>?_
 refine eU (qp (xs:=fQ aX ew) (n:=numAt aI Yh) xD) λ o1 o2 Yp=>?_;have Mr:=tX (n:=numAt aI Yh) xD;rw [KD] at Mr Yp;have zv:lh d4/\d4.cs.length<=100:=by
  unfold fQ at Mr;rcases bR Mr with hm|hm
  ·exact ⟨g.plain _ (aa7 hm).1,g.Kn _ (aa7 hm).1⟩
  ·rw [bj hm];exact ⟨by unfold lh;decide,by decide⟩
 refine cO (CE (n:=0) (st:=⟨b9,ew,jb,b3⟩) g.Zo V Mr) λ Wq TM=>?_;simp only at TM;refine ER (x:=d4) (aY.less (by w_up)) i0 fv abF hR zv.1 (by w_up) Wq f Qd (Qe _) mK cI (au af (au (cP (aV:=is (fQ aX ew)) (a6:=is ((numAt aI Yh).fmod ((fQ aX ew).length:Int))) af (c6 af (ba (f:=.builtin "len") (YN:=[is (fQ aX ew)]) aQ (au af aB) aR trivial (dM (by w_up))) (iW (by w_up))) (dD o1 (by w_up) Yp) ty_list PySem.F.slot_list_getitem.lookup) aB)) aR abd aR λ qe f=>?_;rw [TM] at f;have Wr:bT.bG.length<=30:=by rw [V.bG];w_up
 refine ku f (P:=is iT) (fa (z:="sorter") f abl f.jp.2.2.2) (rR hR (aY.less (by w_up)) (by w_up) ((qq V).trans zt) af (λ ξ=>⟨_,rfl⟩)) wG abd aR λ sI f=>?_;have X6:=rQ V;have rM:(dF bT).all=bT.all:=ic bT.bG.length;have Hv:(dF bT).D=bT.D:=(f7 (σ:=bT) bT.bG.length).1;have KI:(dF bT).R=some abv:=(f7 (σ:=bT) bT.bG.length).2.2.2.1.trans hR;rw [KE] at X6 rM Hv KI;have KJ:=q7 (A:=abN) hR (aY.less (by w_up)) (by w_up) (λ x hx=>(V.vw.has x).mp (V.Zf x (by rw [<-V.bG];exact hx)));rw [V.bG,KE] at KJ;refine Qf (σ':=rf) (g:=141) (P:=is (jS.mk b3)) f (j0 _) rM af abl abl ⟨_,_,by rfl,rfl⟩ bH aB aR ⟨_,rfl⟩ KJ abd aR λ qf f=>?_;have TN:∀x∈b3,x∈aX:=V.Zf;refine mW (ai:=b3) (abL:=is) (β:=λ c=>[("page",is c)]) (p:=λ ξ=>true) (g:=λ c=>decide (c∈ez)) (Ok:=Plain) f bV (vM (xs:=jS.mk b3) aY.handled af) (λ ξ ξ=>rfl) (by w_up) (.name _ _) (λ c ξ=>bB abd) (λ ξ ξ=>fy) (λ c tR ξ=>by
  rw [<-Eo c (TN c tR)];have h1:=g.Kn c (TN c tR);have h2:(cj c [⟨[]⟩]).cs.length<=10000:=by have:=nv c ⟨[]⟩;show (fL c ⟨[]⟩).cs.length<=_;have e:(⟨[]⟩:Tx).cs.length=0:=rfl;w_up
  exact g4 (f:=.ref 56) (gZ:=i8 (dz KH)) (YN:=[is (cj c [⟨[]⟩])]) af yt (au (ba (f:=.ref 277) (YN:=[is c,is (⟨[]⟩:Tx)]) cI (au af (au (cD ⟨[]⟩ abl) aB)) aR ⟨_,_,by rfl,rfl⟩ (nw (a:=c) (bs:=[⟨[]⟩]) (aY.less (by w_up)) (by w_up) (by simp) (by simp))) aB) aR ⟨_,_,by rfl,rfl⟩ (yr (aY.less (by w_up)) hr h2) (λ ξ=>⟨_,rfl⟩)) abd (λ d7 h1 h2=>du d7 h1 h2 abd) λ wN f=>?_
 rw [CB] at f;have nN:(fM ez b3).length=b3.length:=by unfold fM;rw [lm]
 have e2:=(Ka ez b3).trans CK;refine aU f (P:=is fc) (by rw [<-e2];exact cK (ai:=b3.zip (fM ez b3)) (abL:=is) (β:=λ c=>[("allowed",is c.2),("page",is c.1)]) (p:=λ c=>c.2) (f:=λ c=>c.1) (Ok:=sy) bV (Kw aY.handled nN.symm aQ (au af (au af aB)) aR) (λ ξ ξ=>rfl) (by rw [List.length_zip];w_up) ⟨_,_,_,rfl⟩ (λ c ξ=>xA aY.handled abd abd) (λ c ξ=>e8 (cM (P:=is c.2) af gk aR)) (λ c tR ξ=>af)) abd (λ d7 h1 h2=>du d7 h1 h2 abd) λ CL f=>?_
 have c4:=CC ez b3;have Qg:=zm ez b3 ew;have e3:=Kc ez b3 ew;rw [CK] at c4 e3;rw [ES] at Qg e3;refine aU f (P:=is cU) (by
  rw [e3];exact c6 af (cK (ai:=b3) (abL:=is) (β:=λ c=>[("page",is c)]) (p:=λ p=>!decide (p∈fc)) (f:=λ c=>c) (Ok:=Plain) bV (vM (xs:=jS.mk b3) aY.handled af) (λ ξ ξ=>rfl) (by w_up) (.name _ _) (λ c ξ=>bB abd)
   (λ c tR=>e8 (bg (aV:=is c) (a6:=is fc) af af (jJ aY bH) abl)) (λ c ξ ξ=>af)) (dm (by have:=List.length_filter_le (λ p=>!decide (p∈fc)) b3;rw [lm];w_up))) abd aR λ KL f=>?_
 refine cO (CD (av:=ez) (a7:=b3) (bJ:=ew) (n:=numAt aI Yh) V.abK) λ abE gs=>?_;rw [CK,ES,yu] at abE gs;refine aU f (P:=is fG) (tf (b:=!decide (fc=[])||(decide (cU=[])||false)) (fo (iL (bg (aV:=is fc) (a6:=is ([]:List Tx)) af (cf aB (Nat.zero_le _)) (iF aY bH) abl) λ ξ=>iL (bg (aV:=is cU) (a6:=is ([]:List Tx)) af (cf aB (Nat.zero_le _)) (iE aY bH) abl) λ ξ=>jK))
  (λ h=>by
   have h':¬(fc=[]/\cU≠[]):=λ z=>by simp [z.1,z.2] at h
   rw [<-yu,show df fc cU (numAt aI Yh)=[] from if_neg h'];exact cf aB (Nat.zero_le _))
  (λ h=>by
   have h':fc=[]/\cU≠[]:=by simpa using h
   rw [<-yu,show df fc cU (numAt aI Yh)=[pick cU (numAt aI Yh)] from if_pos h'];refine eU (qp (xs:=cU) (n:=numAt aI Yh) (List.length_pos_iff.mpr h'.2)) λ abe aaL Yc=>?_;exact cf (xs:=[pick cU (numAt aI Yh)]) (au (cP (aV:=is cU) (a6:=is ((numAt aI Yh).fmod (cU.length:Int))) af (c6 af (ba (f:=.builtin "len") (YN:=[is cU]) aQ (au af aB) aR trivial (dM (by w_up))) (iW (by w_up))) (dD abe (by w_up) Yc) ty_list PySem.F.slot_list_getitem.lookup) aB) (by show 1<=sizeLine;w_up))) abd aR λ KM f=>?_
 have PY:fG.length<=1:=by rw [<-yu];unfold df;split<;>simp
 have ET:(decide (rf.fin<rf.out)||!rf.bG.isEmpty)=iT:=by rw [qq X6,<-zt];cases b3<;>cases ew<;>simp
 have TP:rf.bG.length<=1000:=by rw [X6.bG];simp
 have FT:∀YN:List YJ,∀b∈rf.all,b∉(ZT.and ((dc ZA YN).and (bK j9))).fp:=λ YN b m=>j0 YN b (rM▸m);refine EK (D:=ZA) (YN:=b9.map is) (P:=is (Y7.mk (kB++d4++nY++wordsOf jb d4) (jS.mk b3) fc fG (says ([iT,iT]++fM ez b3)):Turn)) (aa_:=ZT.and ((dc ZA (b9.map is++[is (Y7.mk (kB++d4++nY++wordsOf jb d4) (jS.mk b3) fc fG (says ([iT,iT]++fM ez b3)):Turn)])).and ((bK j9).and (b8 rf)))) f af (uY (ow (λ m=>?_)) sK)
  (λ aj bN=>Zh (KB bN.cx rfl af af af af aR aR aR aR aR (aV:=is (kB++d4++nY++wordsOf jb d4)) (a6:=is (jS.mk b3)) (xB:=is fc) (Gk:=is fG) (Gl:=is (says ([iT,iT]++fM ez b3))) λ aA k₂=>?_) (λ v s' q=>⟨q.1,(s9 (t:=Y7.mk (kB++d4++nY++wordsOf jb d4) (jS.mk b3) fc fG (says ([iT,iT]++fM ez b3)))).mpr q.2⟩) dp) (by rw [lm];w_up) aR aR (λ ξ=>⟨_,rfl⟩) (λ ξ=>rfl) λ KN f=>?_
 ·rcases bR m with m|m
  ·exact Hu m
  ·exact zu (rM▸m)
 ·have bh:=bN.keep k₂;refine (ba (f:=.type "str") (YN:=[is ([iT,iT]++fM ez b3)]) aQ (au (c6 (cf (xs:=[iT,iT]) (au af (au (rR KI (aY.less (by w_up)) TP ET af (λ ξ=>⟨_,rfl⟩)) aB)) (by show 2<=sizeLine;w_up)) af (dm (by show 2+_<=_;w_up))) aB) aR trivial (nA aY (by rw [gD];show 2+_<=_;w_up))).use (fa (σ:=rf) (z:="sorter") bh (by rw [Hv];rfl) bh.jp.2.2.2) λ v aH iq lN k4=>⟨iq,mE k4⟩
 refine aU f (P:=is (cU.filter λ c=>!decide (c∈fG))) (by
  have e4:(cU.filter λ c=>!decide (c∈fG))=(cU.filter λ c=>!decide (c∈fG)).map λ c=>c:=by rw [List.map_id']
  rw [e4];exact cK (ai:=cU) (abL:=is) (β:=λ c=>[("page",is c)]) (p:=λ c=>!decide (c∈fG)) (f:=λ c=>c) (Ok:=Plain) bV (bZ aY.handled af) (λ ξ ξ=>rfl) (by w_up) (.name _ _) (λ c ξ=>bB abd) (λ c ξ=>e8 (bg (aV:=is c) (a6:=is fG) af af (jJ aY bH) abl)) (λ c tR ξ=>af)) abd (λ d7 h1 h2=>du d7 h1 h2 abd) λ CM f=>?_
 rw [<-Hv] at f;refine Kz (σ:=rf) (xs:=fc++fG) f (FT _) af KI (aY.less (by w_up)) (by rw [X6.bG];simp) (by have:=rT _ _ abE gs;simp only [gD] at this⊢;w_up) (Ht g X6) (Mp g.nd X6 gs abE) (c6 af af (dm (by w_up))) abl aR λ xE f=>?_;refine bf (hQ _ ?_);rw [zo,Hv] at f;exact f.ek (ay abl (ay abl (ay abl (ay abl (ay abl (ay abl bO))))))
end walk_turn_v
def EU {past kC gx:List Tx} {aC:List (Tx×Bool)} {KC:bQ} {R:Addr} {act:Bool}:m7 A aa F aw az Q aT os K σ ah t a7 bJ past av cC kC gx aq ae aC aW KC D R b7 act i:=s7 (U (U (U (U (U (U (U (U (U (U (U (U (U (U (U (U (U (U (U (U (U (U (U (U (U (U (U (U m7)))))))))))))))))))))))))))) walk_turn_v.Zk ((((((((((((((((((((((((((((A,aa),F),aw),az),Q),aT),os),K),σ),ah),t),a7),bJ),past),av),cC),kC),gx),aq),ae),aC),aW),KC),D),R),b7),act),i)
def TQ (h:σ.all=σ'.all) (m:b∈((dc D YN).and ((bK os).and (b8 σ))).fp):b∈((dc D aak).and ((bK os).and (b8 σ'))).fp:=by show b∈[D]++(dh os++σ'.all);rw [<-h];exact m
def sX {aC:List (Tx×Bool)} (g:lq ah t aq) (abx:cy 5 A) (hA:A.frames=some aT) (abF:iQ aT os)
  (Eo:∀p∈ah,(ie (cj p [⟨[]⟩]) aC).2=decide (p∈av)) (hr:aC.length<=100) (hn:0<ae.length) (jz:ae.length<=1000):
  wu A (.ref 339) [is ah,i8 (dz aC),is ae] (bK os) (bK os) (is (fY ah aq av ae)):=λ S s vs T fr hS hJ p=>by
 have hl:=br;have Mq:=g.len;refine kI (ρ:=[("pages",is ah),("record",i8 (dz aC)),("numbers",is ae)]) (J:=bK os) (F:=dh os) (o:=Nk) T fr abx p abl rfl aaT ⟨338,Nj,_,_,rfl,by rfl,rfl,rfl⟩ ["pages","record","numbers"]
  (KA (λ a b c=>by rfl)) abl abd abd hJ (λ b m=>⟨hS b m,m⟩) λ A' Q' aa mD aA aY i0 hQ ξ ξ fv f=>?_
 have i0:A'.frames=some (aa::aT):=by rw [i0,hA];rfl
 refine AK (aY.less (by w_up)) f cI abd aR λ x dx N aH Ws f=>?_;refine Km (x:=aF) (ps:=[]) aY rfl (Nat.zero_le _) (Nat.zero_le _) (λ n m=>absurd m (by simp [bQ.pl,rd])) f Ws af (au (cD aF abl) aB) aR aR ⟨_,rfl⟩ λ oJ Sq bS Qh Ms Uq Ur Qi f=>?_;have TR:oJ.pl=iS aq t 0:=by rw [Ms];show sL [] aF []=[⟨aF,0,[]⟩];simp [sL,lP,jM,ky]
 refine FZ (ai:=t) (abL:=is) (Ok:=Plain) (α:=bQ) (qh:=oJ) (β:=λ p=>[("page",is p)]) (f9:=λ ξ=>[("sorter",lit (.ref x)),("pages",is ah),("record",i8 (dz aC)),("numbers",is ae)])
  (ZH:=λ i τ=>(wO (jE (rd x dx N) τ/\τ.pl=iS aq t i/\∀b∈τ.all,b∉dh os)).and ((bK os).and (b8 τ)))
  (f.fX ⟨⟨Qh,TR,Qi⟩,f.jp⟩ λ b m=>m) (ay abl (ay abl (ay abl (ay abl bO))))
  (bZ aY.handled (cP (aV:=is ah) (a6:=ef (some ((1:Nat):Int)) none none) af (fq (eN bX) cR cR) (by have:=H5 (A:=A') (xs:=ah) (b:=1) (by w_up);rw [g.hd] at this;rw [g.hd];exact this) ty_list PySem.F.slot_list_getitem.lookup)) (.name _ _) (λ ξ=>rfl) (λ b ξ=>bB abd) ?_ λ τ zb bY lA f=>?_
 ·intro i hi K S' s' τ hK f;refine Yj λ Q hQ=>?_;refine eU f.jp.2.1 λ mH lG KO=>?_;refine eU (g.Ko i (Nat.le_of_lt hi)) λ ξ b1 b2=>?_;have wV:τ.pl.length=τ.es.length:=by unfold bQ.pl;rw [lm]
  have Qj:t[i]∈ah:=by rw [g.hd];exact Ym _ (List.getElem_mem hi)
  have f:=f.ek (gy:=[("page",is t[i]),("sorter",lit (.ref τ.D)),("pages",is ah),("record",i8 (dz aC)),("numbers",is ae)]) (by rw [mH.D];exact λ ξ ξ h=>h);refine Km (x:=t[i]) (ps:=[cE aq t[i]]) aY (mH.R.trans rfl) (by rw [lG] at wV;w_up) (by simp) (λ n m=>by rw [lG] at m;have:=b2 n m;w_up) f.toS (λ b m q=>?_) af
   (au af (au (ba (f:=.ref 291) (YN:=[is t[i]]) cI (au af aB) aR ⟨_,_,by rfl,rfl⟩ (um (g.dir _ Qj) (aY.less (by w_up)))) aB)) aR aR ⟨_,rfl⟩ λ σ' o9 gh Wt TS TT vo lS f=>?_
  ·rcases bR q with q|q
   ·exact hK b q (bC _ (bC _ m))
   ·exact KO b m (q)
  have o8:∀b∈σ'.all,b∉dh os:=λ b m q=>lS b m (bC _ (bC _ q));refine bf (hQ .next _ ⟨σ',o9,TT,λ b m=>?_,?_⟩)
  ·rcases bR m with m|m
   ·cases m
   ·rcases bR m with m|m
    ·exact .inl (bC _ (bL _ m))
    ·exact (vo b m).imp (λ z=>bC _ (bC _ z)) id
  ·have f:=f.PX;refine (f.ek (gy:=[("sorter",lit (.ref x)),("pages",is ah),("record",i8 (dz aC)),("numbers",is ae)]) (by rw [show x=τ.D from mH.D.symm];exact ay abl (ay abl (ay abl (ay abl bO))))).fX ⟨f.jp.1,⟨mH.trans Wt,?_,o8⟩,f.jp.2.2⟩ λ b m=>m;rw [TS,lG,xt hi]
 refine eU f.jp.1 λ mH lG KO=>?_;have f:=f.fX (aa_:=(bK os).and (b8 τ)) f.jp.2 λ b m=>bC _ m;have f:=f.ek (gy:=[("sorter",lit (.ref τ.D)),("pages",is ah),("record",i8 (dz aC)),("numbers",is ae)]) (by rw [mH.D];exact λ ξ ξ h=>h);refine eU (g.Ko t.length (Nat.le_refl _)) λ Zy b1 b2=>?_;rw [<-lG] at Zy b1 b2;have wV:τ.pl.length=τ.es.length:=by unfold bQ.pl;rw [lm]
 have Mt:τ.pl.map (λ n=>n.node)=τ.es.map λ e=>e.nd.node:=by unfold bQ.pl;rw [List.map_map];rfl
 refine Mg (Yb:=λ x=>x.cs.length) (aY.less (by w_up)) i0 fv abF KO (by rw [<-Mt];exact Zy.nn) (λ e he y hy=>?_) (mH.R.trans rfl) (by w_up) f af aR ⟨_,rfl⟩ λ R W7 dK Us KP f=>?_
 ·rw [List.take_length] at Zy;have hm:e.nd∈τ.pl:=List.mem_map.mpr ⟨e,he,rfl⟩;rw [(Zy.val e.nd hm).2] at hy;refine cO (aa7 hy) λ y1 y2=>?_;have y2:cE aq y=e.nd.node:=by simpa using y2
  refine ⟨by rw [<-y2];exact g.less y y1,?_⟩;refine aK ((Zy.has y).mp (.inr (.inl y1))) λ n hn Lv=>?_;refine aK (abQ hn) λ e' nQ eL=>?_;subst eL;exact cV e' nQ Lv
 have KQ:Inv ah aq (gv τ R) [] [] [aF]:=g.start lG mH.out mH.fin;have KR:(gv τ R).R=some R:=rfl;rw [show τ.D=(gv τ R).D from rfl] at f;generalize gv τ R=nC at*;have gz:=f.sub;refine sG (xs:=[("hand",_)]) (YN:=[is ([]:List Tx)]) aY.handled f (au (cf aB (Nat.zero_le _)) aB) rfl (by rw [hl];decide) abd (λ ξ=>rfl) abl (nu aa f.cx.names abd) λ D dT e9 pU f=>?_;have h0:D∉S:=λ m=>e9 (gz D m);have zu:D∉nC.all:=λ m=>pU (bC _ m);have Hu:D∉dh os:=λ m=>pU (bL _ m);have Wu:=f.aar;refine lC (ai:=List.range ah.length) (abL:=λ i=>is ((0:Int)+(i:Int)*1)) (Ok:=Plain) (β:=λ i=>[("step",is ((0:Int)+(i:Int)*1))])
  (f9:=λ i=>[("turns",lit (.ref D)),("hand",is (bF ah aq av ae i).hand),("sorter",lit (.ref nC.D)),("numbers",is ae),("record",i8 (dz aC)),("pages",is ah)])
  (ZH:=λ i=>(dc D ((bF ah aq av ae i).turns.map is)).and ((bK os).and (b8 (jF ah aq av ae nC i))))
  (lT:=[("turns",lit (.ref D)),("sorter",lit (.ref nC.D))]) (aap:=(dc D ((bF ah aq av ae ah.length).turns.map is)).and ((bK os).and (b8 (jF ah aq av ae nC ah.length))))
  f (ay abl (ay abl (ay abl (ay abl (ay abl (ay abl bO))))))
  (mu (a:=0) (b:=ah.length) (c:=1) aY.handled (ba (f:=.type "range") (YN:=[is (ah.length:Int)]) aQ (au (ba (f:=.builtin "len") (YN:=[is ah]) aQ (au af aB) aR trivial (dM (by w_up))) aB) aR trivial oq) (oN (by w_up)) (nX _))
  (.name _ _) (λ ξ=>rfl) (λ b ξ=>bB abd) (λ i b m=>?_) (λ b m=>?_) ?_ (λ S' s' f=>by rw [List.length_range] at f;exact f.ek (ay abl (ay abl bO))) λ mS f=>?_
 ·exact TQ (qP i).2.2 m
 ·exact TQ (qP _).2.2 m
 ·intro i hi K S' gT hK f;refine Yj λ Q hQ=>?_;simp only [List.getElem_range] at f;have nO:i<ah.length:=by simpa using hi
  have sK:D∉K.fp:=λ m=>hK D m di;have KG:∀b∈((bK os).and (b8 nC)).fp,b∉K.fp:=λ b m q=>hK b q (Wu b (bC _ m)).1;have e0:(0:Int)+(i:Int)*1=(i:Int):=by w_up
  rw [e0] at f;have xC:(bF ah aq av ae i).turns.length<=100:=by rw [oO];w_up
  have V:=qr (av:=av) (ae:=ae) g.nd KQ i;refine eU (qP (ah:=ah) (aq:=aq) (av:=av) (ae:=ae) (σ:=nC) i) λ gu s2 s3=>?_;rw [fF] at hQ;rw [<-gu] at f;exact EU g aY i0 fv abF Eo hr hn jz nO rfl rfl rfl rfl rfl rfl V xC (s2.trans KR) sK (λ m=>zu (s3▸m)) Hu (λ b m=>KP b (s3▸m)) (λ b m=>KG b ((bR m).elim (bL _) λ m=>bC _ (show b∈nC.all from s3▸m))) f λ s' f=>hQ .next s' (gu▸f)
 ·have V:=qr (av:=av) (ae:=ae) g.nd KQ ah.length;refine cO (CI (av:=av) (ae:=ae) g.nd KQ) λ Wv Ww=>?_;refine eU (qP (ah:=ah) (aq:=aq) (av:=av) (ae:=ae) (σ:=nC) ah.length) λ gu s2 s3=>?_;have xC:(bF ah aq av ae ah.length).turns.length<=100:=by rw [oO];w_up
  rw [Wv,Ww] at V;rw [show fY ah aq av ae=(bF ah aq av ae ah.length).turns++[cv] from rfl] at hQ;generalize (bF ah aq av ae ah.length).turns=aW at*;generalize jF ah aq av ae nC ah.length=σ at*;generalize (bF ah aq av ae ah.length).past=past at*;rw [<-gu] at f;have hR:σ.R=some R:=s2.trans KR;have Jh:D∉((bK os).and (b8 σ)).fp:=λ m=>by
   rcases bR m with m|m
   ·exact Hu m
   ·exact zu (by rw [<-s3];exact m)
  have mK:∀b∈σ.all,b∉(bK os).fp:=λ b m=>KP b (s3▸m);have f:=f.vP (z:="turns") abl h0 Jh;generalize (List.filter (λ b=>!decide (b=D)) _)=lQ at*;have X6:=rQ V;have rM:(dF σ).all=σ.all:=ic σ.bG.length;have Hv:(dF σ).D=σ.D:=(f7 (σ:=σ) σ.bG.length).1;have KI:(dF σ).R=some R:=(f7 (σ:=σ) σ.bG.length).2.2.2.1.trans hR;have KJ:=q7 (A:=A') hR (aY.less (by w_up)) (by rw [V.bG];simp) (λ x hx=>by rw [V.bG] at hx;cases hx);rw [V.bG] at KJ;have ET:(decide ((dF σ).fin<(dF σ).out)||!(dF σ).bG.isEmpty)=false:=by rw [qq X6];rfl
  refine YF (wpAny_Return_some (wpAny_BinOp ((af (A:=A') (P:=cH (aW.map is)) abl abd abd abd).use f.cx λ a t1 k1 c1 p1=>?_)));refine wpAny_List (j7 (he:=by rfl) (wpAny_Tuple ?_));refine j7 (he:=by rfl) ((cD (A:=A') ⟨[]⟩ abl).use c1 λ v1 t2 k2 c2 p2=>?_);have f2:=f.keep (aL k1 k2);refine j7 (he:=by rfl) (zq (σ':=dF σ) (g:=141) (P:=is (jS.mk ([]:List Tx))) f2 mK rM af abl abl ⟨_,_,by rfl,rfl⟩ bH aB aR ⟨_,rfl⟩ KJ λ v2 t3 abJ Wx p3=>?_);refine j7 (he:=by rfl) ((cf (A:=A') (xs:=([]:List Tx)) aB (Nat.zero_le _)).use abJ.cx λ YT t4 aaI aaJ p4=>?_);refine j7 (he:=by rfl) ((cf (A:=A') (xs:=([]:List Tx)) aB (Nat.zero_le _)).use aaJ λ v4 t5 k5 abu YL=>?_);have aal:=abJ.keep (aL aaI k5);refine j7 (he:=by rfl) ((ba (A:=A') (f:=.type "str") (YN:=[is [false]]) aQ (au (cf (xs:=[false]) (au (rR KI (aY.less (by w_up)) (by rw [X6.bG];simp) ET af (λ ξ=>⟨_,rfl⟩)) aB) (by show 1<=sizeLine;w_up)) aB) aR trivial (nA aY (by simp))).use (fa (σ:=dF σ) (z:="sorter") aal (by rw [Hv];rfl) aal.jp.2) λ abP XV abt ZE aaW=>wpAny_items_nil ⟨by show 5<=sizeLine;w_up,?_⟩);have Zs:=aal.keep abt;have Wy:(is (says [false])).p (hide lQ XV.heap) abP:=mE aaW;have XZ:=Zs.keep (gK XV {cls:=.type "tuple",data:=.seq [v1,v2,YT,v4,abP].toArray} XV.toks);refine wpAny_items_nil ⟨by show 1<=sizeLine;w_up,?_⟩;have Mu:XN (hide lQ XV.heap) (hide lQ (XV.heap.push {cls:=.type "tuple",data:=.seq [v1,v2,YT,v4,abP].toArray})):=aJ λ ξ ξ e=>cN _ e;have Qk:XN (hide lQ t5.heap) (hide lQ XV.heap):=aJ (kle abt);have TU:XN (hide lQ t4.heap) (hide lQ t5.heap):=aJ (kle k5);have Wz:XN (hide lQ t3.heap) (hide lQ t4.heap):=aJ (kle aaI);have WA:XN (hide lQ t1.heap) (hide lQ t2.heap):=aJ (kle k2);have TV:=(Wz.trans TU).trans Qk;have N3:(is cv:YJ).p (hide lQ (XV.heap.push {cls:=.type "tuple",data:=.seq [v1,v2,YT,v4,abP].toArray})) (.ref XV.heap.objs.size):=(s9 (t:=cv)).mpr
   ⟨_,_,_,rfl,eZ Zs.cx.b4 rfl,mE p2,(is _).mono (TV.trans Mu) p3,(is _).mono ((TU.trans Qk).trans Mu) p4,(is _).mono (Qk.trans Mu) YL,mE Wy,trivial⟩
  have pa:(cH (aW.map is)).p (hide lQ (XV.heap.push {cls:=.type "tuple",data:=.seq [v1,v2,YT,v4,abP].toArray})) a:=(cH _).mono (((WA.trans Wx).trans TV).trans Mu) p1;generalize hT:({XV with heap:=XV.heap.push {cls:=.type "tuple",data:=.seq [v1,v2,YT,v4,abP].toArray}}:Shared)=XT at*;have YX:XV.heap.push {cls:=.type "tuple",data:=.seq [v1,v2,YT,v4,abP].toArray}=XT.heap:=by rw [<-hT]
  rw [YX] at N3 pa;generalize (Value.ref XV.heap.objs.size)=rv at*;have f8:=XZ.keep (gK XT {cls:=.type "list",data:=.seq [rv].toArray} XT.toks);have TX:XN (hide lQ XT.heap) (hide lQ (XT.heap.push {cls:=.type "list",data:=.seq [rv].toArray})):=aJ λ ξ ξ e=>cN _ e;refine Zh (dm (a:=aW) (b:=[cv]) (by show _+1<=_;w_up) lQ _ _ _ f8.cx.top f8.cx.b4 (is_list.mpr ((cH _).mono TX pa)) (is_list.mpr ⟨_,_,_,rfl,eZ XZ.cx.b4 rfl,(is _).mono TX N3,trivial⟩)) (λ v aba q=>?_) dp;have ZF:=f8.keep q.1;exact hQ _ _ ⟨ZF.aaH,ZF.jp.1,(is _).mono (cT ZF.sub) q.2⟩
noncomputable def Hw:List Tx:=[⟨['a']⟩,⟨['b']⟩,⟨['a','b']⟩]
def bb:List (List Tx):=[[]]++Hw.map (λ a=>[a])++Hw.flatMap (λ a=>Hw.map λ b=>[a,b])++Hw.flatMap λ a=>Hw.flatMap λ b=>Hw.map λ c=>[a,b,c]
noncomputable def lR (ns:List Tx):List Tx:=if ns=[] then [⟨[]⟩] else ns
noncomputable def KS:List Char->List (List Char)
 |[]=>[[]]
 |c::cs=>if c='/' then []::KS cs else match KS cs with
  |h::t=>(c::h)::t
  |[]=>[[c]]
def KT:∀ns∈bb,Txt.split (abj ns).s aF.s=(lR ns).map Tx.s:=by decide+kernel
def zw:∀ns∈bb,Txt.split (Zl ns).s aF.s=((⟨[]⟩:Tx)::lR ns).map Tx.s:=by decide+kernel
def u3:∀ns∈bb,dU ((⟨[]⟩:Tx)::lR ns)=ns:=by decide+kernel
def CN:∀ns∈bb,Txt.startswith (Zl ns).s aF.s=true:=by decide+kernel
def Ql:∀ns∈bb,An (Zl ns) (Zl ns.dropLast)=true:=by decide+kernel
def nZ (ps:List Tx):Bool:=
 let u:=cj aF ps
 let t:=u.cs.drop 1
 let cL:=(KS t).map Tx.mk
 decide (u.cs.take 1=['/'])&&!(t.take 1==['/'])&&decide (t.length<=100)&&decide (Txt.split (Tx.mk t).s aF.s=cL.map Tx.s)&&decide (cL.length<=100)&&cL.all (λ c=>decide (c.cs.length<=100))&&decide (fD cL=gQ ps)&&decide (gQ ps∈bb)
def Hx:∀a∈table,∀b∈table,∀c∈table,nZ [a,b,c]=true:=by decide+kernel
def aaP (ms:List Tx):Nat:=(dX (Zl ms)).cs.length+1
def Qm:∀ns∈bb,∀ms∈bb,i6 (dX (Zl ms)) (dX (Zl ns))=if ms.isPrefixOf ns then (aaP ms:Int) else 0:=by decide+kernel
def TY:∀ns∈bb,∀ms∈bb,ms.isPrefixOf ns=true->ms≠ns->aaP ms<aaP ns:=by decide+kernel
def Qn:∀ns∈bb,∀ms∈bb,decide ((lR ns).take ms.length=ms)=ms.isPrefixOf ns:=by decide+kernel
def Qo:∀ns∈bb,∀ms∈bb,Zl ms=Zl ns->ms=ns:=by decide+kernel
def CO (ns ms:List Tx):List Tx:=if ru ms ns=true then ms else ns
def Gm (ns ms:List Tx):List Tx:=if ry ms ns=true then ms else ns
def EV (ns ms:List Tx):List Tx:=(CO ns ms).take (fj (CO ns ms) (Gm ns ms))
def KU:∀ns∈bb,∀ms∈bb,decide (EV ns ms=ms)=ms.isPrefixOf ns/\EV ns ms∈bb/\((List.range (CO ns ms).length).all λ i=>!decide (i<=fj (CO ns ms) (Gm ns ms))||decide (i<(Gm ns ms).length))=true:=by decide+kernel
def iU:∀ns∈bb,Zl ns≠aa8/\(∀c∈(Zl ns).cs,c∈ql)/\(Zl ns).cs.length<=20/\ns.dropLast∈bb/\ns.length<=3/\(∀c∈ns,c.cs.length<=2):=by decide+kernel
def Mv:∀ns∈bb,ns≠[]->(Zl ns.dropLast).cs.length<(Zl ns).cs.length:=by decide+kernel
def Mw:∀ns∈bb,∀k∈[0,1,2,3],ns.take k∈bb:=by decide+kernel
def Gn {ns:List Tx} (h:ns∈bb) (k:Nat):ns.take k∈bb:=by
 have hl:=(iU ns h).2.2.2.2.1;by_cases hk:k<=3
 ·refine Mw ns h k ?_;have:k=0\/k=1\/k=2\/k=3:=by w_up
  simpa using this
 ·rw [List.take_of_length_le (by w_up)];exact h
def EW {ns:List Tx} (h:ns∈bb) (hp:ms<+:ns):ms∈bb:=by rw [List.prefix_iff_eq_take.mp hp];exact Gn h _
def xF:([]:List Tx)∈bb:=by decide
def oR:Zl []=aF:=by decide
def kO {ns:List Tx} (h:ns∈bb) (h':ms∈bb) (e:Zl ms=Zl ns):ms=ns:=Qo ns h ms h' e
structure qv (kvs:List (Tx×Tx)) (X:List Tx->Prop):Prop where
 hd:∃t,kvs=(aF,aF)::t
 nd:(kvs.map (·.1)).Nodup
 val:∀kv∈kvs,∃ns∈bb,kv=(Zl ns,Zl ns.dropLast)
 has:∀ns∈bb,Zl ns∈kvs.map (·.1)<->X ns
def qv.congr {kvs:List (Tx×Tx)} {X Y:List Tx->Prop} (v:qv kvs X) (h:∀ns∈bb,Y ns<->X ns):qv kvs Y:=⟨v.hd,v.nd,v.val,λ ns hn=>(v.has ns hn).trans (h ns hn).symm⟩
def Hy:qv [(aF,aF)] (λ m=>m=[]):=⟨⟨[],rfl⟩,by simp,λ kv m=>⟨[],xF,by rw [bj m];rfl⟩,λ ns hn=>by rw [List.map_cons,List.map_nil,List.mem_singleton,<-oR];exact ⟨λ e=>kO xF hn e,λ e=>by rw [e]⟩⟩
def CP {kvs:List (Tx×Tx)} {X:List Tx->Prop} (v:qv kvs X) {ns:List Tx} (hn:ns∈bb):qv (mL kvs (Zl ns) (Zl ns.dropLast)) (λ m=>X m\/m=ns):=by
 unfold mL;by_cases q:kvs.any (λ kv=>decide (kv.1=Zl ns))=true
 ·rw [if_pos q];have e:(kvs.map λ kv=>if kv.1=Zl ns then (kv.1,Zl ns.dropLast) else kv)=kvs:=by
   conv=>rhs;rw [<-List.map_id kvs]
   refine List.map_congr_left λ kv oS=>?_;refine aK (v.val kv oS) λ ms hm cX=>?_;subst cX;by_cases c:Zl ms=Zl ns
   ·simp only [c,if_true,id];rw [kO hn hm c]
   ·simp only [c,if_false,id]
  rw [e];refine v.congr λ m hm=>⟨λ h=>h.elim id λ e=>?_,.inl⟩;refine aK (List.any_eq_true.mp q) λ kv oS c=>?_;have c:kv.1=Zl ns:=by simpa using c
  rw [e];exact (v.has ns hn).mp (List.mem_map.mpr ⟨kv,oS,c⟩)
 ·rw [if_neg q];have PS:Zl ns∉kvs.map (·.1):=λ m=>by refine aK (abQ m) λ kv oS c=>?_;exact q (List.any_eq_true.mpr ⟨kv,oS,by simpa using c⟩)
  refine aM v.hd λ t ht=>?_;refine ⟨⟨t++[(Zl ns,Zl ns.dropLast)],by rw [ht];rfl⟩,?_,λ kv oS=>?_,λ m hm=>?_⟩
  ·rw [List.map_append,List.nodup_append];refine ⟨v.nd,by simp,λ a ha b hb e=>PS ?_⟩;have hb:b=Zl ns:=by simpa using hb
   rw [<-hb,<-e];exact ha
  ·rcases bR oS with h|h
   ·exact v.val kv h
   ·exact ⟨ns,hn,bj h⟩
  ·rw [List.map_append,List.mem_append,v.has m hm];refine or_congr Iff.rfl ?_;rw [List.map_cons,List.map_nil,List.mem_singleton];exact ⟨λ e=>kO hn hm e,λ e=>by rw [e]⟩
def Hz {X:List Tx->Prop} {names:List Tx} (hn:names∈bb):∀(k:Nat) {kvs:List (Tx×Tx)},qv kvs X->k<=names.length->qv (gw kvs names k) (λ m=>X m\/∃i,i<k/\m=names.take (names.length - i)):=by
 intro k;induction k with
 |zero=>intro kvs v _;exact v.congr λ m ξ=>⟨λ h=>h.elim id λ ⟨i,h,_⟩=>absurd h (Nat.not_lt_zero _),.inl⟩
 |succ k ih=>
  intro kvs v hk;have ih:=ih v (Nat.le_of_succ_le hk);have e:gw kvs names (k+1)=qM names (gw kvs names k) k:=by unfold gw;rw [List.range_succ,List.foldl_append];rfl
  rw [e];unfold qM;have e2:names.take (names.length - k - 1)=(names.take (names.length - k)).dropLast:=by rw [List.dropLast_eq_take,List.take_take,List.length_take];congr 1;rw [Nat.min_eq_left (Nat.sub_le names.length k),Nat.min_eq_left (Nat.sub_le _ 1)]
  rw [e2];refine (CP ih (Gn hn _)).congr λ m hm=>⟨?_,?_⟩
  ·rintro (h|⟨i,hi,q⟩)
   ·exact .inl (.inl h)
   ·by_cases c:i=k
    ·rw [c] at q;exact .inr q
    ·exact .inl (.inr ⟨i,Nat.lt_of_le_of_ne (Nat.le_of_lt_succ hi) c,q⟩)
  ·rintro ((h|⟨i,hi,q⟩)|q)
   ·exact .inl h
   ·exact .inr ⟨i,Nat.lt_succ_of_lt hi,q⟩
   ·exact .inr ⟨k,Nat.lt_succ_self k,q⟩
def HA:∀(aC:List (List Tx)) {X:List Tx->Prop} {kvs:List (Tx×Tx)},(∀r∈aC,r∈bb)->qv kvs X->X []->qv (aC.foldl (λ kvs names=>gw kvs names names.length) kvs) (λ m=>X m\/∃r∈aC,m<+:r):=by
 intro aC;induction aC with
 |nil=>intro X kvs _ v _;exact v.congr λ m ξ=>⟨λ h=>h.elim id λ ⟨r,h,_⟩=>(nomatch h),.inl⟩
 |cons r aC ih=>
  intro X kvs h v hX;have v1:=(Hz (h r di) r.length v (Nat.le_refl _)).congr (Y:=λ m=>X m\/m<+:r) λ m hm=>by
   refine ⟨?_,?_⟩
   ·rintro (a|a)
    ·exact .inl a
    ·by_cases q:m=[]
     ·rw [q];exact .inl hX
     ·have hl:=a.length_le;have hp:0<m.length:=List.length_pos_iff.mpr q;refine .inr ⟨r.length - m.length,by w_up,?_⟩;rw [show r.length - (r.length - m.length)=m.length by w_up];exact List.prefix_iff_eq_take.mp a
   ·rintro (a|⟨i,hi,q⟩)
    ·exact .inl a
    ·rw [q];exact .inr (List.take_prefix _ _)
  rw [List.foldl_cons];refine (ih (λ q hq=>h q (Ym _ hq)) v1 (.inl hX)).congr λ m hm=>⟨?_,?_⟩
  ·rintro (a|⟨q,hq,a⟩)
   ·exact .inl (.inl a)
   ·rcases cF hq with rfl|hq
    ·exact .inl (.inr a)
    ·exact .inr ⟨q,hq,a⟩
  ·rintro ((a|a)|⟨q,hq,a⟩)
   ·exact .inl a
   ·exact .inr ⟨r,di,a⟩
   ·exact .inr ⟨q,Ym _ hq,a⟩
def qw (aC:List (List Tx)) (ns:List Tx):Prop:=ns∈bb/\(ns=[]\/∃r∈aC,ns<+:r)
def bx (aC:List (List Tx)):List Tx:=(a9 aC).map (·.1)
section
variable {aC:List (List Tx)}
def u4 (h:∀r∈aC,r∈bb):qv (a9 aC) (λ m=>m=[]\/∃r∈aC,m<+:r):=(HA aC h Hy rfl).congr λ m ξ=>Iff.rfl
def n0 (h:∀r∈aC,r∈bb) {p:Tx}:p∈bx aC<->∃ns,qw aC ns/\p=Zl ns:=by
 have v:=u4 h;constructor
 ·intro m;refine aK (abQ m) λ kv oS ff=>?_;subst ff;refine aK (v.val kv oS) λ ns hn e=>?_;refine ⟨ns,⟨hn,(v.has ns hn).mp ?_⟩,by rw [e]⟩;rw [e] at oS;exact List.mem_map.mpr ⟨_,oS,rfl⟩
 ·rintro ⟨ns,⟨hn,hx⟩,rfl⟩;exact (v.has ns hn).mpr hx
def n3 {ns:List Tx} (h:qw aC ns) (hp:ms<+:ns):qw aC ms:=by
 refine ⟨EW h.1 hp,?_⟩;rcases h.2 with q|⟨r,hr,q⟩
 ·rw [q] at hp;exact .inl (List.prefix_nil.mp hp)
 ·exact .inr ⟨r,hr,hp.trans q⟩
def qR (h:∀r∈aC,r∈bb) {ns:List Tx} (hn:ns∈bb):Zl ns∈bx aC<->qw aC ns:=by
 rw [n0 h];constructor
 ·rintro ⟨ms,hm,e⟩;rw [kO hm.1 hn e];exact hm
 ·exact λ x=>⟨ns,x,rfl⟩
def kD (h:∀r∈aC,r∈bb) {ns:List Tx} (hp:qw aC ns):cE (a9 aC) (Zl ns)=Zl ns.dropLast:=by
 have v:=u4 h;have hm:=(v.has ns hp.1).mpr hp.2;unfold cE;cases q:(a9 aC).find? λ kv=>decide (kv.1=Zl ns) with
 |none=>
  refine aK (abQ hm) λ kv oS e=>?_;have:=List.find?_eq_none.mp q kv oS;simp [e] at this
 |some kv=>
  have h1:=List.find?_some q;have h1:kv.1=Zl ns:=by simpa using h1
  refine aK (v.val kv (List.mem_of_find?_eq_some q)) λ ms hm e=>?_;rw [e] at h1⊢;have:ms=ns:=kO hp.1 hm h1;show Zl ms.dropLast=_;rw [this]
def KV (h:∀r∈aC,r∈bb):(a9 aC).map (·.2)=(bx aC).map (cE (a9 aC)):=by unfold bx;rw [List.map_map];refine List.map_congr_left λ kv oS=>?_;have v:=u4 h;refine aK (v.val kv oS) λ ns hn e=>?_;have hp:qw aC ns:=⟨hn,(v.has ns hn).mp (by rw [e] at oS;exact List.mem_map.mpr ⟨_,oS,rfl⟩)⟩;show kv.2=cE (a9 aC) kv.1;rw [e];exact (kD h hp).symm
def eW (l:List α):l.dropLast<+:l:=List.dropLast_prefix l
def Qp (h:∀r∈aC,r∈bb) (hl:aC.length<=9):∃t,lq (bx aC) t (a9 aC):=by
 have v:=u4 h;refine aM v.hd λ t ht=>?_;have hd:bx aC=aF::t.map (·.1):=by unfold bx;rw [ht];rfl
 have al:(bx aC).length<=30:=by have:=xo aC [(aF,aF)] 3 λ r hr=>(iU r (h r hr)).2.2.2.2.1;have e:[(aF,aF)].length=1:=rfl;unfold bx;rw [lm];unfold a9;w_up
 have each:∀p∈bx aC,∃ns,qw aC ns/\p=Zl ns:=λ p hp=>(n0 h).mp hp;refine ⟨t.map (·.1),hd,v.nd,λ p hp=>hp,λ p hp=>?_,λ m=>?_,λ p hp=>?_,al,λ p hp=>?_,λ p hp=>?_,λ p hp=>?_⟩
 ·refine aK (each p hp) λ ns hn gi=>?_;subst gi;rw [kD h hn];exact (qR h (iU ns hn.1).2.2.2.1).mpr (n3 hn (eW _))
 ·refine aK (each _ m) λ ns hn e=>?_;exact (iU ns hn.1).1 e.symm
 ·refine aK (each p hp) λ ns hn fN=>?_;subst fN;exact (iU ns hn.1).2.1
 ·refine aK (each p hp) λ ns hn fO=>?_;subst fO;have:=(iU ns hn.1).2.2.1;w_up
 ·refine aK (each p hp) λ ns hn gN=>?_;subst gN;rw [kD h hn];exact Ql ns hn.1
 ·refine aK (each p (by rw [hd];exact Ym _ hp)) λ ns hn gj=>?_;subst gj;rw [kD h hn];refine Mv ns hn.1 λ q=>?_;have gp:=v.nd;have gp:(bx aC).Nodup:=gp;rw [hd] at gp;refine (List.nodup_cons.mp gp).1 ?_;rw [q,oR] at hp;exact hp
end
section
open PySem.AutoSeq1 (wpAny_loadPart')
noncomputable def gU (a b:Int×Bool):Bool:=if a.1=b.1 then a.2&&!b.2 else decide (a.1>b.1)
def AM {w:World} {a b:Int} {t:Tok} {Q:Value->Shared->Prop} (h:Q (.bool (decide (a>b))) s):wpAny (model prog w) A (richCompare .Gt (.int a t) (.int b u)) Q E s:=
 richCompare_gives (op:=.Gt) (typeIs_int s _ t) (typeIs_int s _ u) PySem.F.slot_int_gt PySem.F.entry_int_gt (PySem.F.args_int_gt_2 _ _) (gives_int_gt _ _ t u) (λ x=>nomatch x) h
def yv {w:World} {a b:Bool} {Q:Value->Shared->Prop} (h:Q (.bool (a&&!b)) s):wpAny (model prog w) A (richCompare .Gt (.bool a) (.bool b)) Q E s:=
 richCompare_gives (op:=.Gt) (typeIs_bool' s a) (typeIs_bool' s b) PySem.F.slot_bool_gt PySem.F.entry_int_gt (PySem.F.args_int_gt_2 _ _) (gives_int_gt_bools a b) (λ x=>nomatch x) (by cases a<;>cases b<;>exact h)
def AN {w:World} {a b:Bool} {Q:Bool->Shared->Prop} (h:Q (a==b) s):wpAny (model prog w) A (eqBool (.bool a) (.bool b)) Q E s:=by
 unfold eqBool;refine XG ?_;by_cases LB:a=b
 ·subst LB;rw [if_pos (by simp)];exact Z4 (wpAny_rule (X5 (by simpa using h)))
 ·rw [if_neg (by simpa using LB)];exact Z4 (PySem.SeqAt.RcAt.bool_bool a b prog w E _ (wpAny_truthy_bool h))
def CQ {l:Addr} {x y:Int×Bool} {t:Tok} {m:Nat}:
  Meets (Builtin.«tuple.__gt__» ⟨[.ref l,.ref b],[]⟩) (λ A R s=>s.heap.get? l=some {cls:=.type "tuple",data:=.seq #[.int x.1 t,.bool x.2] m}/\s.heap.get? b=some {cls:=.type "tuple",data:=.seq #[.int y.1 u,.bool y.2] m'}/\R (.ok (.ret (.bool (gU x y)))) s):=by
 intro prog w A R s h;obtain ⟨i,p⟩:=x;obtain ⟨j,q⟩:=y;refine eU h λ hl hb h=>?_;have abJ:=PySem.AutoSeq1.sub_tuple_tuple;show wpAny _ _ (isInstance (.ref b) (.type "tuple")>>=_) _ _ _;refine Z4 (wpAny_isInstance (T:="tuple") (b:=true) ⟨_,hb,rfl⟩ abJ ?_);show wpAny _ _ (Builtin.Tuple.tupleItemsOf (.ref l)>>=_) _ _ _;refine Z4 (wpAny_tupleItemsOf hl rfl ?_);refine Z4 (wpAny_tupleItemsOf hb rfl ?_);refine Z4 ?_;simp only [List.zip_cons_cons,List.zip_nil_left,List.forIn_cons,List.forIn_nil];refine Z4 (Z4 (wpAny_eqBool_int ?_));by_cases KW:i=j
 ·subst KW;rw [show (i==i)=true by simp];refine X5 (Z4 (Z4 (AN ?_)));by_cases TZ:p=q
  ·subst TZ;rw [show (p==p)=true by simp];rw [if_neg bH];have e5:gU (i,p) (i,p)=false:=by unfold gU;rw [if_pos rfl];cases p<;>rfl
   rw [e5] at h;exact X5 (X5 (X5 h))
  ·rw [beq_eq_false_iff_ne.mpr TZ];have e5:gU (i,p) (i,q)=(p&&!q):=by unfold gU;rw [if_pos rfl]
   rw [e5] at h;exact Z4 (wpAny_rule (Z4 (yv (Z4 (X5 (X5 (X5 (X5 h))))))))
 ·rw [beq_eq_false_iff_ne.mpr KW];rw [if_pos bH];have e5:gU (i,p) (j,q)=decide (i>j):=by unfold gU;rw [if_neg KW]
  rw [e5] at h;exact Z4 (wpAny_rule (Z4 (AM (Z4 (X5 (X5 (X5 (X5 h))))))))
def EX {x y:Int×Bool} (abx:cy n A):fm A (richCompare .Gt) (is x) (is y) (is (gU x y)):=λ S s a b T fr p q=>by
 refine bw (kS.mp p) λ la xs m dI ha pa=>?_;subst dI;refine bw (kS.mp q) λ lb ys m' ff hb pb=>?_;subst ff;have e1:∀{x:Int×Bool} {xs:Array Value},AllP (hide S s.heap) [is x.1,is x.2] xs.toList->∃t,xs=#[.int x.1 t,.bool x.2]:=λ {x xs} pa=>by refine bU pa.two λ u v e p1 p2=>?_;refine aM (bD.mp p1) λ t eK=>?_;subst eK;rw [is_bool.mp p2] at e;exact ⟨t,Array.toList_inj.mp e⟩
 refine aM (e1 pa) λ t eL=>?_;subst eL;refine aM (e1 pb) λ u gG=>?_;subst gG;have uG:=ao _ _ ha;have lB:=ao _ _ hb;exact richCompare_meets_room ⟨_,uG,rfl⟩ ⟨_,lB,rfl⟩ PySem.F.slot_tuple_gt PySem.F.entry_tuple_gt (PySem.F.args_tuple_gt_2 _ _) CQ ⟨uG,lB,(by intro q;cases q),cB _,is_bool.mpr rfl⟩ (by have:=abx.units;w_up)
end
abbrev ZW:=List Tx×Bool
def Spec (L:List ZW) (ns:List Tx):Prop:=(∀l∈L,¬l.1<+:ns)\/∃l∈L,l.2=true/\l.1<+:ns/\∀l'∈L,l'.1<+:ns->l'.1.length<=l.1.length
def fZ (b:Int×Bool) (xs:List (Int×Bool)):Int×Bool:=xs.foldl (λ b x=>if gU x b then x else b) b
def CR:∀(xs:List (Int×Bool)) (b:Int×Bool),(fZ b xs=b\/fZ b xs∈xs)/\(∀y∈xs,y.1<=(fZ b xs).1/\(y.1=(fZ b xs).1->y.2=true->(fZ b xs).2=true))/\b.1<=(fZ b xs).1/\(b.1=(fZ b xs).1->b.2=true->(fZ b xs).2=true):=by
 intro xs;induction xs with
 |nil=>intro b;exact iD (.inl rfl) (λ ξ m=>(nomatch m)) (Int.le_refl _) (λ ξ h=>h)
 |cons x xs ih=>
  intro b;have e:fZ b (x::xs)=fZ (if gU x b then x else b) xs:=rfl;have WB:(if gU x b=true then x else b).1>=b.1/\(if gU x b=true then x else b).1>=x.1/\((if gU x b=true then x else b).1=b.1->b.2=true->(if gU x b=true then x else b).2=true)/\((if gU x b=true then x else b).1=x.1->x.2=true->(if gU x b=true then x else b).2=true):=by
   by_cases g:gU x b=true
   ·rw [if_pos g];unfold gU at g;by_cases h:x.1=b.1
    ·rw [if_pos h] at g;exact ⟨Int.le_of_eq h.symm,Int.le_refl _,λ ξ ξ=>(Bool.and_eq_true_iff.mp g).1,λ ξ q=>q⟩
    ·rw [if_neg h] at g;exact ⟨Int.le_of_lt (of_decide_eq_true g),Int.le_refl _,λ q=>absurd q h,λ ξ q=>q⟩
   ·rw [if_neg g];unfold gU at g;by_cases h:x.1=b.1
    ·rw [if_pos h] at g;refine ⟨Int.le_refl _,Int.le_of_eq h,λ ξ q=>q,λ ξ q=>?_⟩;rw [q] at g;cases hb:b.2 with
     |true=>rfl
     |false=>rw [hb] at g;exact absurd rfl g
    ·rw [if_neg h] at g;exact ⟨Int.le_refl _,Int.not_lt.mp λ q=>g (decide_eq_true q),λ ξ q=>q,λ q=>absurd q.symm h⟩
  refine jw (ih (if gU x b then x else b)) λ i1 i2 i3 i4=>?_;rw [e];generalize hr:fZ (if gU x b then x else b) xs=r at*;generalize hc:(if gU x b=true then x else b)=c at*;refine jw WB λ gu s2 s3 ZQ=>?_;refine iD ?_ (λ y hy=>?_) (by w_up) (λ q h=>?_)
  ·rcases i1 with q|q
   ·rw [q];rw [<-hc];split
    ·exact .inr di
    ·exact .inl rfl
   ·exact .inr (Ym _ q)
  ·rcases cF hy with rfl|hy
   ·refine ⟨by w_up,λ q h=>?_⟩;exact i4 (by w_up) (ZQ (by w_up) h)
   ·exact i2 y hy
  ·exact i4 (by w_up) (s3 (by w_up) h)
def CS {xs:List (Int×Bool)} (h:∀x∈xs,0<=x.1):(fZ (-1,true) xs).2=true<->xs=[]\/∃x∈xs,x.2=true/\∀y∈xs,y.1<=x.1:=by
 refine jw (CR xs (-1,true)) λ i1 i2 i3 i4=>?_;constructor
 ·intro q;by_cases e:xs=[]
  ·exact .inl e
  ·right;rcases i1 with r|r
   ·refine aM (List.exists_mem_of_ne_nil _ e) λ x hx=>?_;have h1:=(i2 x hx).1;have h2:=h x hx;rw [r] at h1;simp at h1;w_up
   ·exact eX _ r q (λ y hy=>(i2 y hy).1)
 ·rintro (e|⟨x,hx,h1,h2⟩)
  ·rw [e];rfl
  ·have h3:=i2 x hx;rcases i1 with r|r
   ·have:=h x hx;rw [r] at h3;simp at h3;w_up
   ·exact h3.2 (Int.le_antisymm h3.1 (h2 _ r)) h1
def xG {L:List ZW} {ns:List Tx} (a8:List Tx->Int) (h0:∀ms,0≤a8 ms) (hk:∀l∈L,∀l'∈L,l.1<+:ns->l'.1<+:ns->(a8 l'.1<=a8 l.1<->l'.1.length<=l.1.length)):
  (fZ (-1,true) ((L.filter λ l=>l.1.isPrefixOf ns).map λ l=>(a8 l.1,l.2))).2=true<->Spec L ns:=by
 rw [CS (by intro x hx;refine aK (abQ hx) λ l ξ eK=>?_;subst eK;exact h0 _)]
 have mem:∀l,l∈(L.filter λ l=>l.1.isPrefixOf ns)<->l∈L/\l.1<+:ns:=λ l=>by rw [List.mem_filter,List.isPrefixOf_iff_prefix]
 unfold Spec;refine or_congr ?_ ?_
 ·rw [List.map_eq_nil_iff,List.filter_eq_nil_iff];refine forall_congr' λ l=>forall_congr' λ hl=>?_;rw [List.isPrefixOf_iff_prefix]
 ·constructor
  ·rintro ⟨x,hx,h1,h2⟩;refine aK (abQ hx) λ l hl eL=>?_;subst eL;refine cO ((mem l).mp hl) λ a b=>?_;exact ⟨l,a,h1,b,λ l' eF hp=>(hk l a l' eF b hp).mp (h2 _ (List.mem_map.mpr ⟨l',(mem l').mpr ⟨eF,hp⟩,rfl⟩))⟩
  ·rintro ⟨l,hl,h1,hp,h2⟩;refine eX _ (List.mem_map.mpr ⟨l,(mem l).mpr ⟨hl,hp⟩,rfl⟩) h1 (λ y hy=>?_);refine aK (abQ hy) λ l' eF il=>?_;subst il;refine cO ((mem l').mp eF) λ a b=>?_;exact (hk l hl l' a hp b).mpr (h2 l' a b)
def CT {ns a b:List Tx} (ha:a<+:ns) (hb:b<+:ns) (h:a.length<=b.length):a<+:b:=List.prefix_of_prefix_length_le ha hb h
def Mx {ns a b:List Tx} (ha:a<+:ns) (hb:b<+:ns) (h:a.length=b.length):a=b:=(CT ha hb (Nat.le_of_eq h)).eq_of_length h
def Qq {ns a b:List Tx} (hn:ns∈bb) (ha:a<+:ns) (hb:b<+:ns):((aaP b:Int)<=(aaP a:Int))<->b.length<=a.length:=by
 have a8:∀{a b:List Tx},a<+:ns->b<+:ns->a.length<b.length->aaP a<aaP b:=λ {a b} ha hb h=>by refine TY b (EW hn hb) a (EW hn ha) (List.isPrefixOf_iff_prefix.mpr (CT ha hb (Nat.le_of_lt h))) λ e=>?_;rw [e] at h;exact Nat.lt_irrefl _ h
 constructor
 ·intro h;refine Nat.le_of_not_lt λ q=>?_;have:=a8 ha hb q;w_up
 ·intro h;rcases Nat.lt_or_eq_of_le h with q|q
  ·have:=a8 hb ha q;w_up
  ·rw [Mx hb ha q];exact Int.le_refl _
def rowsOf (L:List ZW):List (Tx×Bool):=L.map λ l=>(Zl l.1,l.2)
def EY (m:Int) (a:Bool) (b:Int×Bool):(if m>b.1 then (m,a) else if m=b.1/\b.2=false then (b.1,a) else b)=if gU (m,a) b then (m,a) else b:=by
 obtain ⟨b1,b2⟩:=b;show (if m>b1 then (m,a) else if m=b1/\b2=false then (b1,a) else (b1,b2))=if (if m=b1 then a&&!b2 else decide (m>b1))=true then (m,a) else (b1,b2)
 by_cases c:m=b1
 ·subst c;rw [if_neg (Int.lt_irrefl m),if_pos (c:=m=m) rfl];cases b2 with
  |false=>rw [if_pos (c:=m=m/\false=false) ⟨rfl,rfl⟩];cases a<;>rfl
  |true=>rw [if_neg (c:=m=m/\true=false) λ q=>Bool.noConfusion q.2];cases a<;>rfl
 ·rw [if_neg c];by_cases c2:m>b1
  ·rw [if_pos c2,if_pos (decide_eq_true c2)]
  ·rw [if_neg c2,if_neg λ q=>c q.1,if_neg λ q=>c2 (of_decide_eq_true q)]
def KX {ns:List Tx} (hn:ns∈bb):∀(L:List ZW) (b:Int×Bool),(∀l∈L,l.1∈bb)->(rowsOf L).foldl (gY (dX (Zl ns))) b=fZ b ((L.filter λ l=>l.1.isPrefixOf ns).map λ l=>((aaP l.1:Int),l.2)):=by
 intro L;induction L with
 |nil=>intro b _;exact rfl
 |cons l L ih=>
  intro b h;have WC:=Qm ns hn l.1 (h l di);have e:gY (dX (Zl ns)) b (Zl l.1,l.2)=(λ m:Int=>if m≠0 then (if m>b.1 then (m,l.2) else if m=b.1/\b.2=false then (b.1,l.2) else b) else b) (i6 (dX (Zl l.1)) (dX (Zl ns))):=rfl;show (rowsOf L).foldl (gY (dX (Zl ns))) (gY (dX (Zl ns)) b (Zl l.1,l.2))=_;rw [ih _ λ q hq=>h q (Ym _ hq),e,WC];by_cases q:l.1.isPrefixOf ns=true
  ·rw [List.filter_cons_of_pos (p:=λ l:ZW=>l.1.isPrefixOf ns) q,List.map_cons,if_pos q];have hw:(aaP l.1:Int)≠0:=by unfold aaP;w_up
   exact congrArg (λ z=>fZ z _) ((if_pos hw).trans (EY _ _ _))
  ·rw [List.filter_cons_of_neg (p:=λ l:ZW=>l.1.isPrefixOf ns) q,if_neg q];rfl
def CU {L:List ZW} {ns:List Tx} (hn:ns∈bb) (hL:∀l∈L,l.1∈bb):(ie (dX (Zl ns)) (rowsOf L)).2=true<->Spec L ns:=by unfold ie;rw [KX hn L _ hL];exact xG (λ ms=>(aaP ms:Int)) (λ ξ=>by w_up) λ l ξ l' ξ hp uy=>Qq hn hp uy
def zx (p:Tx):List Tx:=(bb.find? λ ns=>decide (Zl ns=p)).getD []
def mO {ns:List Tx} (h:ns∈bb):zx (Zl ns)=ns:=by
 unfold zx;cases q:bb.find? λ ms=>decide (Zl ms=Zl ns) with
 |none=>exact absurd (List.find?_eq_none.mp q ns h) (by simp)
 |some ms=>
  have h1:=List.find?_some q;have h1:Zl ms=Zl ns:=by simpa using h1
  exact kO h (List.mem_of_find?_eq_some q) h1
def reachOf (L:List ZW) (p:Tx):List (Int×Bool):=(L.filter λ l=>l.1.isPrefixOf (zx p)).map λ l=>((l.1.length:Int),l.2)
def rV (L:List ZW) (p:Tx):Bool:=(fZ (-1,true) (reachOf L p)).2
def CV {L:List ZW} {ns:List Tx} (hn:ns∈bb):rV L (Zl ns)=true<->Spec L ns:=by unfold rV reachOf;rw [mO hn];exact xG (λ ms=>(ms.length:Int)) (λ ξ=>by w_up) λ l ξ l' ξ ξ ξ=>by w_up
def HB {ai:List (Int×Bool)} {bt:Nat->Nat->Bool} (KY:∀i j (hi:i<ai.length) (hj:j<ai.length),bt i j=gU ai[i] ai[j]) {b:Int×Bool} {r:List (Int×Bool)} (he:ai=b::r):∀k,k<ai.length->∃h:argBest bt k<ai.length,ai[argBest bt k]=fZ b (r.take k):=by
 intro k;induction k with
 |zero=>intro h;exact ⟨h,by show ai[0]=_;subst he;rfl⟩
 |succ k ih=>
  intro h;refine aM (ih (by w_up)) λ h1 h2=>?_;have hk:k<r.length:=by rw [he,List.length_cons] at h;w_up
  have e1:r.take (k+1)=r.take k++[r[k]]:=by rw [List.take_add_one,List.getElem?_eq_getElem hk];rfl
  have e2:ai[k+1]=r[k]:=by subst he;rfl
  have e3:fZ b (r.take (k+1))=if gU r[k] (fZ b (r.take k)) then r[k] else fZ b (r.take k):=by rw [e1];unfold fZ;rw [List.foldl_append];rfl
  have e4:argBest bt (k+1)=if bt (k+1) (argBest bt k) then k+1 else argBest bt k:=rfl
  rw [e3];by_cases q:bt (k+1) (argBest bt k)=true
  ·rw [if_pos q] at e4;have q':=q;rw [KY _ _ h h1,h2,e2] at q';refine ⟨by rw [e4];exact h,?_⟩;rw [if_pos q'];simp only [e4];exact e2
  ·rw [if_neg q] at e4;have q':=q;rw [KY _ _ h h1,h2,e2] at q';refine ⟨by rw [e4];exact h1,?_⟩;rw [if_neg q'];simp only [e4];exact h2
def fH (aW:List Turn):Nat:=((List.range aW.length).find? λ i=>decide ((aW.getD i cv).d≠[])).getD aW.length
def seenOf (aW:List Turn):List Tx:=(aW.take (fH aW)).flatMap λ t=>t.c
def zy (aW:List Turn):fH aW<=aW.length:=by
 unfold fH;cases q:(List.range aW.length).find? λ i=>decide ((aW.getD i cv).d≠[]) with
 |none=>exact Nat.le_refl _
 |some i=>
  have:=List.mem_of_find?_eq_some q;rw [List.mem_range] at this;exact Nat.le_of_lt this
def HC (h:i<fH aW):(aW.getD i cv).d=[]:=by
 have hi:i<aW.length:=Nat.lt_of_lt_of_le h (zy aW);unfold fH at h;cases q:(List.range aW.length).find? λ i=>decide ((aW.getD i cv).d≠[]) with
 |none=>
  have:=List.find?_eq_none.mp q i (List.mem_range.mpr hi);simpa using this
 |some j=>
  rw [q] at h;have KW:i<j:=h;rw [List.find?_range_eq_some] at q;have:=q.2.2 i KW;simpa using this
def HD (h:fH aW<aW.length):(aW.getD (fH aW) cv).d≠[]:=by
 unfold fH at h⊢;cases q:(List.range aW.length).find? λ i=>decide ((aW.getD i cv).d≠[]) with
 |none=>rw [q] at h;exact absurd h (Nat.lt_irrefl _)
 |some j=>
  have:=List.find?_some q;simpa using this
def j6 (k:Nat):(bF ah aq av ae k).turns.length=k:=by
 induction k with
 |zero=>rfl
 |succ k ih=>rw [fF];show (_++[_]).length=_;rw [gD,ih];rfl
def CW (k n:Nat) (h:k<=n):∃r,(bF ah aq av ae n).turns=(bF ah aq av ae k).turns++r:=by
 induction n with
 |zero=>rw [Nat.le_zero.mp h];exact ⟨[],by simp⟩
 |succ n ih=>
  by_cases q:k=n+1
  ·rw [q];exact ⟨[],by simp⟩
  ·refine aM (ih (by w_up)) λ r e=>?_;rw [fF];have a8:∀(a b r:List Turn) (x:Turn),a=b++r->a++[x]=b++(r++[x]):=λ a b r x h=>by rw [h,List.append_assoc]
   exact ⟨_,a8 _ _ _ _ e⟩
def HE (h:k<n):((bF ah aq av ae n).turns++[cv]).getD k cv=((bF ah aq av ae (k+1)).turns).getD k cv:=by refine aM (CW (ah:=ah) (aq:=aq) (av:=av) (ae:=ae) (k+1) n h) λ r e=>?_;rw [e,List.append_assoc];rw [List.getD_eq_getElem?_getD,List.getD_eq_getElem?_getD,List.getElem?_append_left (by rw [j6];w_up)]
def HF:((bF ah aq av ae (k+1)).turns).getD k cv=(let st:=bF ah aq av ae k
  ⟨kB++pick (fQ ah st.hand) (numAt ae k)++nY++wordsOf st.past (pick (fQ ah st.hand) (numAt ae k)),⟨st.given⟩,cu av st.given,df (cu av st.given) (c9 av st.given st.hand) (numAt ae k),says ([!decide (st.given=[])||!decide (st.hand=[]),!decide (st.given=[])||!decide (st.hand=[])]++fM av st.given)⟩):=by
 rw [fF];show ((bF ah aq av ae k).turns++[_]).getD k cv=_;rw [List.getD_eq_getElem?_getD,List.getElem?_append_right (by rw [j6];exact Nat.le_refl _),j6,Nat.sub_self];rfl
def xH:∀k,(∀i,i<k->df (cu av (bF ah aq av ae i).given) (c9 av (bF ah aq av ae i).given (bF ah aq av ae i).hand) (numAt ae i)=[])->
  (bF ah aq av ae k).turns.flatMap (λ t=>t.c)=(bF ah aq av ae k).past:=by
 intro k;induction k with
 |zero=>intro _;exact rfl
 |succ k ih=>
  intro h;have ih:=ih λ i hi=>h i (by w_up);have ht:=h k (Nat.lt_succ_self _);rw [fF];show ((bF ah aq av ae k).turns++[_]).flatMap _=(bF ah aq av ae k).past++cu av _++df _ _ _;rw [ht,List.append_nil,List.flatMap_append,ih];simp
section
variable {L:List ZW}
noncomputable abbrev aP (L:List ZW):List (List Tx):=L.map λ l=>l.1
def bk (L:List ZW):List Tx:=(bx (aP L)).filter (rV L)
abbrev lI (L:List ZW) (ae:List Int) (k:Nat):Hh:=bF (bx (aP L)) (a9 (aP L)) (bk L) ae k
abbrev dP (L:List ZW) (ae:List Int):List Turn:=fY (bx (aP L)) (a9 (aP L)) (bk L) ae
def ZB (L:List ZW) (ns:List Tx):Prop:=∀ms,ms<+:ns->Spec L ms
structure CX (L:List ZW):Prop where
 nm:∀l∈L,l.1∈bb
 len:L.length<=9
variable (H:CX L)
include H
theorem CX.rows:∀r∈aP L,r∈bb:=λ r hr=>by refine aK (abQ hr) λ l hl d6=>?_;subst d6;exact H.nm l hl
theorem CX.Qs:∃t,lq (bx (aP L)) t (a9 (aP L)):=Qp H.rows (by rw [lm];exact H.len)
theorem n4 {ns:List Tx} (h:qw (aP L) ns):Zl ns∈bk L<->Spec L ns:=by unfold bk;rw [List.mem_filter,CV h.1];exact ⟨λ x=>x.2,λ x=>⟨(qR H.rows h.1).mpr h,x⟩⟩
theorem CY (k:Nat):∃σ,Inv (bx (aP L)) (a9 (aP L)) σ (lI L ae k).past (lI L ae k).hand (lI L ae k).given:=by
 refine aM H.Qs λ t g=>?_;let σ:bQ:=⟨(0:Addr),(0:Addr),(0:Addr),none,(iS (a9 (aP L)) t t.length).map λ nd=>⟨nd,(0:Addr),(0:Addr),(0:Addr)⟩,[],0,0⟩;have g8:σ.pl=iS (a9 (aP L)) t t.length:=by show ((iS (a9 (aP L)) t t.length).map _).map _=_;rw [List.map_map];exact List.map_id _
 exact ⟨_,qr g.nd (g.start (R:=(0:Addr)) g8 rfl rfl) k⟩
structure aah (L:List ZW) (st:Hh):Prop where
 aaM:∀ns,qw (aP L) ns->Zl ns∈st.past->ZB L ns
 hd:∀p∈st.hand,p∉bk L
 dn:∀ns,qw (aP L) ns->(ns=[]\/Zl ns.dropLast∈st.past)->Zl ns∈st.past\/Zl ns∈st.hand\/Zl ns∈st.given
theorem KZ {ns:List Tx} (h:qw (aP L) ns) (hs:Spec L ns) (hp:ns=[]\/ZB L ns.dropLast):ZB L ns:=λ ms hm=>by
 by_cases q:ms=ns
 ·rw [q];exact hs
 ·rcases hp with rfl|hp
  ·exact absurd (List.prefix_nil.mp hm) q
  ·refine hp ms ?_;have h1:ms.length<ns.length:=by
    have:=hm.length_le;rcases Nat.lt_or_eq_of_le this with c|c
    ·exact c
    ·exact absurd (hm.eq_of_length c) q
   exact List.prefix_of_prefix_length_le hm (eW ns) (by rw [List.length_dropLast];w_up)
theorem My:∀k,(∀i,i<k->df (cu (bk L) (lI L ae i).given) (c9 (bk L) (lI L ae i).given (lI L ae i).hand) (numAt ae i)=[])->aah L (lI L ae k):=by
 intro k;induction k with
 |zero=>intro _;exact ⟨λ ns h m=>(nomatch m),λ p m=>(nomatch m),λ ns h q=>by
  rcases q with rfl|q
  ·exact .inr (.inr (by rw [oR];exact List.mem_singleton.mpr rfl))
  ·cases q⟩
 |succ k ih=>
  intro h;have ih:=ih λ i hi=>h i (by w_up);have ht:=h k (Nat.lt_succ_self _);refine aM (CY (ae:=ae) H k) λ σ v=>?_;show aah L (bF _ _ _ ae (k+1));rw [fF];generalize fh:lI L ae k=st at*;have pP:bF (bx (aP L)) (a9 (aP L)) (bk L) ae k=st:=fh;rw [pP];have EZ:(lj (bx (aP L)) (a9 (aP L)) (bk L) ae st k).past=st.past++cu (bk L) st.given:=by show st.past++_++df _ _ _=_;rw [ht,List.append_nil]
  have K0:(lj (bx (aP L)) (a9 (aP L)) (bk L) ae st k).hand=c9 (bk L) st.given st.hand:=by show (c9 _ _ _).filter (λ p=>!decide (p∈df _ _ _))=_;rw [ht];exact List.filter_eq_self.mpr λ p ξ=>by simp
  have T3:(lj (bx (aP L)) (a9 (aP L)) (bk L) ae st k).given=nextOf (bx (aP L)) (a9 (aP L)) (cu (bk L) st.given):=by show nextOf _ _ (cu _ _++df _ _ _)=_;rw [ht,List.append_nil]
  have N4:∀p,p∈cu (bk L) st.given<->p∈st.given/\p∈bk L:=λ p=>by unfold cu;rw [List.mem_filter];simp
  refine ⟨λ ns hn m=>?_,λ p m=>?_,λ ns hn q=>?_⟩
  ·rw [EZ] at m;rcases bR m with m|m
   ·exact ih.aaM ns hn m
   ·refine cO ((N4 _).mp m) λ m1 m2=>?_;refine KZ H hn ((n4 H hn).mp m2) ?_;by_cases e:ns=[]
    ·exact .inl e
    ·right;have hs:Zl ns≠aF:=λ q=>e (kO xF hn.1 (by rw [oR];exact q));have:=v.up (Zl ns) (.inr (.inr m1)) hs;rw [kD H.rows hn] at this;exact ih.aaM _ (n3 hn (eW _)) this
  ·rw [K0] at m;unfold c9 at m;rcases bR m with m|m
   ·exact ih.hd p m
   ·simpa using (aa7 m).2
  ·rw [EZ,K0,T3];have old:Zl ns∈st.past\/Zl ns∈st.hand\/Zl ns∈st.given->Zl ns∈st.past++cu (bk L) st.given\/Zl ns∈c9 (bk L) st.given st.hand\/Zl ns∈nextOf (bx (aP L)) (a9 (aP L)) (cu (bk L) st.given):=by
    rintro (a|a|a)
    ·exact .inl (bL _ a)
    ·exact .inr (.inl (bL _ a))
    ·by_cases c:Zl ns∈bk L
     ·exact .inl (bC _ ((N4 _).mpr ⟨a,c⟩))
     ·exact .inr (.inl (bC _ (List.mem_filter.mpr ⟨a,by simpa using c⟩)))
   rcases q with rfl|q
   ·exact old (ih.dn [] hn (.inl rfl))
   ·rw [EZ] at q;rcases bR q with q|q
    ·exact old (ih.dn ns hn (.inr q))
    ·by_cases e:ns=[]
     ·exact old (ih.dn ns hn (.inl e))
     ·refine .inr (.inr ?_);have hs:Zl ns≠aF:=λ q=>e (kO xF hn.1 (by rw [oR];exact q));have e2:nextOf (bx (aP L)) (a9 (aP L)) (cu (bk L) st.given)=(cu (bk L) st.given).flatMap (kids (bx (aP L)) (a9 (aP L))):=by unfold nextOf ib;rw [List.filter_eq_self.mpr λ ξ ξ=>rfl];refine congrArg (λ f=>List.flatMap f (cu (bk L) st.given)) (funext λ one=>?_);rw [List.map_id'];unfold kids;refine List.filter_congr λ y ξ=>by simp
      rw [e2];exact List.mem_flatMap.mpr ⟨_,q,l4.mpr ⟨(qR H.rows hn.1).mpr hn,hs,kD H.rows hn⟩⟩
theorem K1 (d:aah L st) (hg:∀p∈st.given,p∉bk L) {ns:List Tx} (hn:qw (aP L) ns):Zl ns∈st.past<->ZB L ns:=by
 refine ⟨d.aaM ns hn,λ aaM=>?_⟩;have a8:∀(k:Nat) (ms:List Tx),ms.length=k->ms<+:ns->Zl ms∈st.past:=by
  intro k;induction k with
  |zero=>
   intro ms h hp;have e:ms=[]:=List.length_eq_zero_iff.mp h;have hm:=n3 hn hp;have qx:=(n4 H hm).mpr (aaM ms hp);rcases d.dn ms hm (.inl e) with a|a|a
   ·exact a
   ·exact absurd qx (d.hd _ a)
   ·exact absurd qx (hg _ a)
  |succ k ih=>
   intro ms h hp;have hm:=n3 hn hp;have qx:=(n4 H hm).mpr (aaM ms hp);rcases d.dn ms hm (.inr (ih ms.dropLast (by rw [List.length_dropLast];w_up) ((eW ms).trans hp))) with a|a|a
   ·exact a
   ·exact absurd qx (d.hd _ a)
   ·exact absurd qx (hg _ a)
 exact a8 _ ns rfl (List.prefix_refl _)
theorem n5 {ns:List Tx} (hn:qw (aP L) ns):Zl ns∈seenOf (dP L ae)<->ZB L ns:=by
 have bl:(dP L ae).length=(bx (aP L)).length+1:=by show ((bF _ _ _ _ _).turns++[cv]).length=_;rw [gD,j6];rfl
 have hle:=zy (dP L ae);have c4:=λ i=>HC (aW:=dP L ae) (i:=i);have G4:=HD (aW:=dP L ae);have turn:∀k,k<(bx (aP L)).length->((dP L ae).getD k cv).d=df (cu (bk L) (lI L ae k).given) (c9 (bk L) (lI L ae k).given (lI L ae k).hand) (numAt ae k):=λ k hk=>by show (((bF _ _ _ _ _).turns++[cv]).getD k cv).d=_;rw [HE hk,HF]
 have hN:fH (dP L ae)≠(bx (aP L)).length:=λ q=>by have h1:=G4 (by rw [q,bl];exact Nat.lt_succ_self _);rw [q] at h1;refine h1 ?_;show (((bF _ _ _ _ _).turns++[cv]).getD _ cv).d=[];rw [List.getD_eq_getElem?_getD,List.getElem?_append_right (by rw [j6];exact Nat.le_refl _),j6,Nat.sub_self];rfl
 have main:∃k,k≤(bx (aP L)).length/\seenOf (dP L ae)=(lI L ae k).past/\(∀i,i<k->df (cu (bk L) (lI L ae i).given) (c9 (bk L) (lI L ae i).given (lI L ae i).hand) (numAt ae i)=[])/\∀p∈(lI L ae k).given,p∉bk L:=by
  unfold seenOf;rcases Nat.lt_or_gt_of_ne hN with q|q
  ·have ht:∀i,i<fH (dP L ae)->df (cu (bk L) (lI L ae i).given) (c9 (bk L) (lI L ae i).given (lI L ae i).hand) (numAt ae i)=[]:=λ i hi=>by rw [<-turn i (by w_up)];exact c4 i hi
   refine ⟨fH (dP L ae),Nat.le_of_lt q,?_,ht,λ p hp WD=>?_⟩
   ·refine aM (CW (ah:=bx (aP L)) (aq:=a9 (aP L)) (av:=bk L) (ae:=ae) (fH (dP L ae)) (bx (aP L)).length (Nat.le_of_lt q)) λ r e=>?_;have e2:(dP L ae).take (fH (dP L ae))=(lI L ae (fH (dP L ae))).turns:=by generalize hG:fH (dP L ae)=G at*;show ((bF _ _ _ _ _).turns++[cv]).take G=_;rw [e,List.append_assoc,List.take_append_of_le_length (by rw [j6];exact Nat.le_refl _),List.take_of_length_le (by rw [j6];exact Nat.le_refl _)]
    rw [e2];exact xH _ ht
   ·have h1:=G4 (by rw [bl];w_up);rw [turn _ q] at h1;have h2:cu (bk L) (lI L ae (fH (dP L ae))).given=[]:=by
     unfold df at h1;split at h1
     ·rename_i c;exact c.1
     ·exact absurd rfl h1
    have:p∈cu (bk L) (lI L ae (fH (dP L ae))).given:=by unfold cu;exact List.mem_filter.mpr ⟨hp,by simpa using WD⟩
    rw [h2] at this;cases this
  ·have hg:fH (dP L ae)=(bx (aP L)).length+1:=by w_up
   have ht:∀i,i<(bx (aP L)).length->df (cu (bk L) (lI L ae i).given) (c9 (bk L) (lI L ae i).given (lI L ae i).hand) (numAt ae i)=[]:=λ i hi=>by rw [<-turn i hi];exact c4 i (by w_up)
   refine aM (CY (ae:=ae) H 0) λ σ v0=>?_;refine aM H.Qs λ t g=>?_;refine ⟨(bx (aP L)).length,Nat.le_refl _,?_,ht,λ p hp=>?_⟩
   ·rw [hg,List.take_of_length_le (by rw [bl];exact Nat.le_refl _)];show ((bF _ _ _ _ _).turns++[cv]).flatMap _=_;rw [List.flatMap_append,xH _ ht];show _++([]++[])=_;rw [List.append_nil,List.append_nil]
   ·have:=(CI (av:=bk L) (ae:=ae) g.nd v0).1;have uy:p∈(bF (bx (aP L)) (a9 (aP L)) (bk L) ae (bx (aP L)).length).given:=hp;rw [this] at uy;cases uy
 refine rW main λ k hk e ht hg=>?_;rw [e];exact K1 H (My H k ht) hg hn
end
section
variable {L:List ZW}
def kE (L:List ZW) (seen:List Tx):List Tx:=(bx (aP L)).filter λ p=>!decide (p∈bk L)&&((decide (p=aF)||(decide (cE (a9 (aP L)) p∈seen)||false))&&true)
def rg (p one:Tx):Tx:=Zl (EV (zx p) (zx one))
def qy (L:List ZW) (seen:List Tx):List Tx:=(bx (aP L)).filter λ p=>decide ((kE L seen).filter (λ one=>decide (rg p one=one))=[])
def gR (L:List ZW) (seen:List Tx):List ZW:=L.filter λ l=>decide (Zl l.1∈seen)||!l.2
abbrev jc (L:List ZW) (ae:List Int):List Tx:=seenOf (dP L ae)
variable (H:CX L)
include H
theorem CZ (hm:qw (aP L) ms):Zl ms∈kE L (jc L ae)<->¬Spec L ms/\(ms=[]\/ZB L ms.dropLast):=by unfold kE;rw [List.mem_filter];have h1:Zl ms∈bx (aP L):=(qR H.rows hm.1).mpr hm;have h2:Zl ms=aF<->ms=[]:=⟨λ q=>kO xF hm.1 (by rw [oR];exact q),λ q=>by rw [q,oR]⟩;simp only [h1,true_and,Bool.and_true,Bool.or_false,Bool.and_eq_true,Bool.not_eq_true',Bool.or_eq_true,decide_eq_true_eq,decide_eq_false_iff_not,n4 H hm,h2,kD H.rows hm,n5 (ae:=ae) H (n3 hm (eW ms))]
theorem C0 {ns:List Tx} (h:¬ZB L ns):∃ms,ms<+:ns/\¬Spec L ms/\(ms=[]\/ZB L ms.dropLast):=by
 have a8:∀(k:Nat) (ns:List Tx),ns.length=k->¬ZB L ns->∃ms,ms<+:ns/\¬Spec L ms/\(ms=[]\/ZB L ms.dropLast):=by
  intro k;induction k with
  |zero=>
   intro ns hl h;have e:ns=[]:=List.length_eq_zero_iff.mp hl;refine eX [] List.nil_prefix (λ hs=>h λ ms hm=>?_) (.inl rfl);rw [e] at hm;rw [List.prefix_nil.mp hm];exact hs
  |succ k ih=>
   intro ns hl h;by_cases q:ZB L ns.dropLast
   ·refine eX ns (List.prefix_refl _) (λ hs=>h ?_) (.inr q);intro ms hm;by_cases e:ms=ns
    ·rw [e];exact hs
    ·refine q ms ?_;have h1:ms.length<ns.length:=by
      rcases Nat.lt_or_eq_of_le hm.length_le with c|c
      ·exact c
      ·exact absurd (hm.eq_of_length c) e
     exact List.prefix_of_prefix_length_le hm (eW ns) (by rw [List.length_dropLast];omega)
   ·refine aK (ih ns.dropLast (by rw [List.length_dropLast];omega) q) λ ms a b=>?_;exact cV ms (a.trans (eW _)) b
 exact a8 _ ns rfl h
theorem free_eq:qy L (jc L ae)=(bx (aP L)).filter λ p=>decide (p∈jc L ae):=by
 unfold qy;refine List.filter_congr λ p hp=>?_;refine aK ((n0 H.rows).mp hp) λ ns hn c7=>?_;subst c7;rw [decide_eq_decide,n5 (ae:=ae) H hn,List.filter_eq_nil_iff];have N5:∀ms,ms∈bb->(rg (Zl ns) (Zl ms)=Zl ms<->ms<+:ns):=λ ms hm=>by unfold rg;rw [mO hn.1,mO hm];refine eU (KU ns hn.1 ms hm) λ a b ξ=>?_;rw [<-List.isPrefixOf_iff_prefix,<-a,decide_eq_true_eq];exact ⟨λ q=>kO hm b q,λ q=>by rw [q]⟩
 constructor
 ·intro h;refine Classical.byContradiction λ q=>?_;refine cZ (C0 H q) λ ms a b c=>?_;have hm:=n3 hn a;have:=h (Zl ms) ((CZ (ae:=ae) H hm).mpr ⟨b,c⟩);rw [decide_eq_true_eq,N5 ms hm.1] at this;exact this a
 ·intro aaM one ho;have WE:one∈bx (aP L):=by unfold kE at ho;exact (aa7 ho).1
  refine aK ((n0 H.rows).mp WE) λ ms hm ff=>?_;subst ff;rw [decide_eq_true_eq,N5 ms hm.1];intro q;exact ((CZ (ae:=ae) H hm).mp ho).1 (aaM ms q)
theorem xJ {l:ZW} (hl:l∈L):qw (aP L) l.1:=⟨H.nm l hl,.inr ⟨l.1,List.mem_map.mpr ⟨l,hl,rfl⟩,List.prefix_refl _⟩⟩
theorem E0 {ns:List Tx} (hn:qw (aP L) ns):Spec (gR L (jc L ae)) ns<->ZB L ns:=by
 have mem:∀l,l∈gR L (jc L ae)<->l∈L/\(ZB L l.1\/l.2=false):=λ l=>by
  unfold gR;rw [List.mem_filter];constructor
  ·rintro ⟨a,b⟩;rw [Bool.or_eq_true,decide_eq_true_eq,n5 (ae:=ae) H (xJ H a),Bool.not_eq_true'] at b;exact ⟨a,b⟩
  ·rintro ⟨a,b⟩;refine ⟨a,?_⟩;rw [Bool.or_eq_true,decide_eq_true_eq,n5 (ae:=ae) H (xJ H a),Bool.not_eq_true'];exact b
 constructor
 ·intro hs;refine Classical.byContradiction λ q=>?_;refine cZ (C0 H q) λ ms a b c=>?_;have T4:∃l∈L,l.1=ms/\l.2=false:=by
   refine Classical.byContradiction λ no=>b ?_;have pre:∀l∈L,l.1<+:ms->l.2=true\/l.1<+:ms.dropLast/\ms≠[]:=λ l hl hp=>by
    by_cases e:l.1=ms
    ·cases h2:l.2 with
     |true=>exact .inl rfl
     |false=>exact absurd ⟨l,hl,e,h2⟩ no
    ·right;have h1:l.1.length<ms.length:=by
      rcases Nat.lt_or_eq_of_le hp.length_le with c|c
      ·exact c
      ·exact absurd (hp.eq_of_length c) e
     exact ⟨List.prefix_of_prefix_length_le hp (eW ms) (by rw [List.length_dropLast];omega),λ z=>by rw [z] at h1;exact absurd h1 (Nat.not_lt_zero _)⟩
   by_cases ex:∃l∈L,l.1=ms
   ·refine aK ex λ l hl e=>?_;refine .inr ⟨l,hl,?_,by rw [e];exact List.prefix_refl _,λ l' ξ hp=>by rw [e];exact hp.length_le⟩;cases h2:l.2 with
    |true=>rfl
    |false=>exact absurd ⟨l,hl,e,h2⟩ no
   ·have sp:ms=[]\/Spec L ms.dropLast:=c.imp id λ aaM=>aaM _ (List.prefix_refl _);have prop:∀l∈L,l.1<+:ms->l.1<+:ms.dropLast:=λ l hl hp=>by
     have h1:l.1.length<ms.length:=by
      rcases Nat.lt_or_eq_of_le hp.length_le with c|c
      ·exact c
      ·exact absurd ⟨l,hl,hp.eq_of_length c⟩ ex
     exact List.prefix_of_prefix_length_le hp (eW ms) (by rw [List.length_dropLast];omega)
    rcases sp with e|sp
    ·refine .inl λ l hl hp=>ex ⟨l,hl,?_⟩;rw [e] at hp⊢;exact List.prefix_nil.mp hp
    ·rcases sp with sp|⟨l,hl,h1,h2,h3⟩
     ·exact .inl λ l hl hp=>sp l hl (prop l hl hp)
     ·exact .inr ⟨l,hl,h1,h2.trans (eW _),λ l' eF hp=>h3 l' eF (prop l' eF hp)⟩
  refine cZ T4 λ f hf e1 e2=>?_;have nf:f∈gR L (jc L ae):=(mem f).mpr ⟨hf,.inr e2⟩;rcases hs with hs|⟨l,hl,h1,h2,h3⟩
  ·exact hs f nf (by rw [e1];exact a)
  ·have h4:=h3 f nf (by rw [e1];exact a);rw [e1] at h4;refine cO ((mem l).mp hl) λ Qt nB=>?_;rcases nB with aaM|h5
   ·exact b (aaM ms (List.prefix_of_prefix_length_le a h2 h4))
   ·rw [h1] at h5;cases h5
 ·intro aaM;by_cases ex:∃l∈gR L (jc L ae),l.1<+:ns
  ·
   have:∃l∈gR L (jc L ae),l.1<+:ns/\∀l'∈gR L (jc L ae),l'.1<+:ns->l'.1.length<=l.1.length:=by
    generalize gR L (jc L ae)=M at ex;have a8:∀(k:Nat),(∃l∈M,l.1<+:ns/\ns.length - l.1.length<=k)->∃l∈M,l.1<+:ns/\∀l'∈M,l'.1<+:ns->l'.1.length<=l.1.length:=by
     intro k;induction k with
     |zero=>
      rintro ⟨l,hl,hp,hk⟩;exact eX l hl hp (λ l' ξ uy=>by have:=uy.length_le;omega)
     |succ k ih=>
      rintro ⟨l,hl,hp,hk⟩;by_cases q:∀l'∈M,l'.1<+:ns->l'.1.length<=l.1.length
      ·exact eX l hl hp q
      ·refine aM (Classical.not_forall.mp q) λ l' q=>?_;refine cO (Classical.not_imp.mp q) λ h1 q=>?_;refine cO (Classical.not_imp.mp q) λ h2 q=>?_;exact ih ⟨l',h1,h2,by have:=h2.length_le;omega⟩
    refine aK ex λ l hl hp=>?_;exact a8 (ns.length - l.1.length) ⟨l,hl,hp,Nat.le_refl _⟩
   refine cZ this λ l hl hp T5=>?_;refine cO ((mem l).mp hl) λ Qt ξ=>?_;have hs:=aaM l.1 hp;rcases hs with hs|⟨l2,nB,h1,h2,h3⟩
   ·exact absurd (List.prefix_refl _) (hs l Qt)
   ·have e:l2.1=l.1:=h2.eq_of_length (Nat.le_antisymm h2.length_le (h3 l Qt (List.prefix_refl _)));refine .inr ⟨l2,(mem l2).mpr ⟨nB,.inl ?_⟩,h1,by rw [e];exact hp,λ l' eF uy=>by rw [e];exact T5 l' eF uy⟩;rw [e];exact λ ms hm=>aaM ms (hm.trans hp)
  ·exact .inl λ l hl hp=>ex ⟨l,hl,hp⟩
end
noncomputable def K2 {ι:Type} (ZD:ι->YJ):YJ:=⟨λ h v=>∃i,(ZD i).p h v,λ k ⟨i,x⟩=>⟨i,(ZD i).mono k x⟩⟩
abbrev anyI:YJ:=K2 (λ i:Int=>is i)
abbrev E1:YJ:=K2 (λ ys:List Int=>is ys)
def YQ.pin {ZD:ι->YJ} (f:YQ sc ak F aw az aa ((z,K2 ZD)::ρ) J S s) (hk:sc.lookup z=some .local\/sc.lookup z=some .cell\/sc.lookup z=some .free):∃i,YQ sc ak F aw az aa ((z,ZD i)::ρ) J S s:=by
 have x:=f.cx.vars z (K2 ZD) (by rw [List.lookup_cons,beq_self_eq_true]);have Y4:=f.cx.kindOf z;have fin:∀i,et S aa s.heap z (ZD i)->∃i,YQ sc ak F aw az aa ((z,ZD i)::ρ) J S s:=λ i y=>
  ⟨i,⟨f.cx.names,f.cx.kind,f.cx.glob,f.cx.bi,λ n P e=>by
   rw [List.lookup_cons] at e;by_cases q:n=z
   ·subst q;rw [beq_self_eq_true] at e;cases e;exact y
   ·rw [beq_eq_false_iff_ne.mpr q] at e;exact f.cx.vars n P (by rw [List.lookup_cons,beq_eq_false_iff_ne.mpr q];exact e),f.cx.b4,f.cx.top⟩,f.Zt,f.aaH,f.sub,f.new,f.loc,f.gb,f.cl,f.jp,f.aar⟩
 unfold et at x fin;rcases hk with hk|hk|hk
 ·rw [hk] at Y4;rw [Y4] at x fin;obtain ⟨m,v,a,b,i,d⟩:=x;exact fin i ⟨m,v,a,b,d⟩
 ·rw [hk] at Y4;rw [Y4] at x fin;obtain ⟨m,v,a,b,i,d⟩:=x;exact fin i ⟨m,v,a,b,d⟩
 ·rw [hk] at Y4;rw [Y4] at x fin;obtain ⟨m,v,a,b,i,d⟩:=x;exact fin i ⟨m,v,a,b,d⟩
def E2:∀{vs:List Value},(∀v∈vs,∃i t,v= .int i t)->∃ys:List Int,AllP g (ys.map is) vs:=by
 intro vs;induction vs with
 |nil=>intro _;exact ⟨[],trivial⟩
 |cons v vs ih=>
  intro h;refine cS (h v di) λ i t dI=>?_;subst dI;refine aM (show ∃ys:List Int,AllP g (ys.map is) vs from ih λ u m=>h u (Ym _ m)) λ ys q=>?_;exact ⟨i::ys,bD.mpr ⟨t,rfl⟩,q⟩
def xK:∀{ys:List Int} {vs:List Value},AllP g (ys.map is) vs->∀v∈vs,∃i t,v= .int i t:=by
 intro ys;induction ys with
 |nil=>
  intro Z2;cases Z2 with
  |nil=>intro _ v m;exact nomatch m
  |cons _ _=>intro h _ _;cases h
 |cons y ys ih=>
  intro Z2;cases Z2 with
  |nil=>intro h _ _;cases h
  |cons v vs=>
   intro Ii u m;obtain ⟨p,q⟩:=Ii;rcases cF m with rfl|m
   ·refine aM (bD.mp p) λ t e=>?_;exact ⟨y,t,e⟩
   ·exact ih q u m
def yw {xs:List Int} {i k:Option Int} (h0:k≠some 0) (hz:xs.length<=sizeLine):fm A getItem (is xs) (ef i j k) E1:=λ S s u v ξ f p q=>by
 refine bw (is_list.mp p) λ a vs n eK ha pa=>?_;subst eK;refine kR q λ b l' u' ip eL sd JS T6 hs=>?_;subst eL;subst sd;subst JS;subst T6;have e1:=pa.length;rw [Array.length_toList,lm] at e1;refine cZ hs λ o ho hc hd=>?_;refine wpAny_getItem_list_slice ⟨_,ao _ _ ha,rfl,_,rfl⟩ ⟨o,ao _ _ ho,hc,hd⟩ h7 h7 h7 h0 ?_ (by rw [e1];exact hz);have iP:=xK pa;obtain ⟨ys,hy⟩:=E2 (g:=hide S (s.heap.push {cls:=.type "list",data:=.seq (slicePick vs (l'.map (·.1)) (u'.map (·.1)) (ip.map (·.1)))})) (vs:=(slicePick vs (l'.map (·.1)) (u'.map (·.1)) (ip.map (·.1))).toList) λ v m=>by unfold slicePick at m;rw [List.toList_toArray] at m;refine aK (List.mem_filterMap.mp m) λ t ξ ht=>?_;exact iP v (by rw [<-Array.getElem?_toList] at ht;exact List.mem_of_getElem? ht)
 exact ⟨⟨_,_,rfl,λ ξ ξ e=>cN _ e⟩,ys,is_list.mpr ⟨_,_,0,rfl,eZ f rfl,hy⟩⟩
def C1 (hh:A.handled=none):fJ A (.builtin "sum") [E1] anyI:=λ S s vs T fr p=>by
 obtain ⟨v,rfl,ys,pv⟩:=p.one;refine bw (is_list.mp pv) λ a vs n fN ha pa=>?_;subst fN;have hl:=ed (ao _ _ ha);have iP:=xK pa;have c4:a<s.heap.objs.size:=Heap.lt_size (ao _ _ ha);refine call_sum_walkAnyS (wpAny_pyIter_list hl ?_);have W:=(Walks.list (prog:=XX) (w:=w) (A:=A.in1) hh s.heap.objs.size a (Nat.ne_of_lt c4) vs).toS;refine ⟨_,_,_,_,_,_,_,λ i=>(match vs[i]?with|some (.int k _)=>k|_=>0),rfl,W,⟨⟨_,Heap.get?_push_size _ rfl,rfl,rfl⟩,hl.push _⟩,λ b hb=>?_,λ i v hv=>?_,λ s' t' hm=>?_⟩
 ·rw [Heap.size_push];rcases cF hb with rfl|hb
  ·exact Nat.lt_succ_self _
  ·rw [bj hb];exact Nat.lt_succ_of_lt c4
 ·refine cS (iP v (by rw [<-Array.getElem?_toList] at hv;exact List.mem_of_getElem? hv)) λ k t fO=>?_;subst fO;exact ⟨t,by simp only [hv]⟩
 ·have e:=Moved.eq_with hm;have hk:XN s.heap s'.heap:=λ b o q=>hm.heap b o (λ m=>by rw [bj m] at q;exact absurd (Heap.lt_size q) (Nat.lt_irrefl _)) (cN _ q)
  refine ⟨⟨s'.heap,s'.toks,?_,hk⟩,_,bD.mpr ⟨t',rfl⟩⟩;rw [e]
def C2 {k:Int}:fm A (binaryOp .Add) anyI (is k) anyI:=λ S s a b T f p q=>by refine aM p λ i p=>?_;exact Zh (pD (A:=A) S s a b T f p q) (λ v s' z=>⟨z.1,_,z.2⟩) λ ξ ξ z=>z
def AO {x:Addr} {T id:String} {Q:Bool->Shared->Prop} (hT:s.TypeIs (.ref x) T) (hs:typeLookup (.type T) "__len__"=pure (some (.builtin id))) (h:(T="dict"/\id="dict.__len__")\/(T="dict_values"/\id="dict_values.__len__")) (q:Q false s):wpAny (model XX w) A (Builtin.List.listLengthHint (.ref x)) Q E s:=by
 unfold Builtin.List.listLengthHint;refine Z4 (wpAny_specialOf hT hs ?_);rcases h with ⟨rfl,rfl⟩|⟨rfl,rfl⟩
 ·show wpAny _ _ (isInstance (.ref x) (.type "dict")>>=_) _ _ _;refine Z4 (wpAny_isInstance (T:="dict") (b:=true) hT (by rw [isSubtype_type];kernel_rfl) ?_);show wpAny _ _ (typeOf (.ref x)>>=_) _ _ _;exact Z4 (wpAny_typeOf hT (X5 q))
 ·show wpAny _ _ (isInstance (.ref x) (.type "dict_values")>>=_) _ _ _;refine Z4 (wpAny_isInstance (T:="dict_values") (b:=true) hT (by rw [isSubtype_type];kernel_rfl) ?_);show wpAny _ _ (typeOf (.ref x)>>=_) _ _ _;exact Z4 (wpAny_typeOf hT (X5 q))
def xM {x d:Addr} {X8:Obj} {T id:String} {Pv:Nat->Value->Prop} {St:Addr->Nat->Heap->Prop} {Q:Value->Shared->Prop} (hT:(T="dict"/\id="dict.__len__")\/(T="dict_values"/\id="dict_values.__len__")) (hs:typeLookup (.type T) "__len__"=pure (some (.builtin id))) (hx:s.TypeIs (.ref x) T) (hd:d<s.heap.objs.size) (fv:X8.isFreed=false)
  (Qu:∀(A:Around) (aj:Shared) Q E,(∀b o,s.heap.get? b=some o->aj.heap.get? b=some o)->Q (.ref aj.heap.objs.size) {aj with heap:=aj.heap.push X8}->wpAny (model XX w) A (pyIter (.ref x)) Q E aj)
  (W:∀I,d≠I->Walks XX w A.in1.in1 I [I,d] [I] n Pv (St I)) (fh:∀I h,h.get? I=some X8->(∀b o,s.heap.get? b=some o->h.get? b=some o)->St I 0 h) (hn:n<=sizeLine)
  (hQ:∀h' tk aO c',(∀b o,s.heap.get? b=some o->h'.get? b=some o)->h'.get? s.heap.objs.size=some {cls:=.type "list",dict:=none,data:=.seq aO c',slots:=#[]}->ItemsOf Pv aO n->Q (.ref s.heap.objs.size) {s with heap:=h',toks:=tk}):
  wpAny (model XX w) A (call (.type "list") [.ref x]) Q E s:=by
 refine callType_codes (Q₁:=λ obj aj=>obj= .ref s.heap.objs.size/\aj={s with heap:=s.heap.push {cls:=.type "list",data:=.seq #[]}}) PySem.F.called_list (PySem.F.typeCall_list_1 _) PySem.F.entry_list_init
  (code_list_new _ ⟨rfl,rfl⟩) λ obj aj dg=>?_
 refine cO dg λ gj En=>?_;subst gj;subst En;have hS:(s.heap.push {cls:=.type "list",data:=.seq #[]}).get? s.heap.objs.size=some {cls:=.type "list",data:=.seq #[]}:=Heap.get?_push_size _ rfl;have c4:∀b o,s.heap.get? b=some o->b≠s.heap.objs.size:=λ b o e q=>by rw [q] at e;exact absurd (Heap.lt_size e) (Nat.lt_irrefl _)
 refine aK hx λ ox Qv Gv=>?_;have WG:x≠s.heap.objs.size:=c4 _ _ Qv;refine ⟨⟨_,hS,rfl⟩,PySem.F.args_list_init_2 _ _,?_⟩;show wpAny _ _ (do let old<-Builtin.List.listItems (.ref s.heap.objs.size);Builtin.List.listUpdate (.ref s.heap.objs.size) (λ ξ=>#[]);letGo old.toList.reverse;Builtin.List.listExtendWith (.ref s.heap.objs.size) (.ref x) .none) _ _ _;refine Z4 ?_;unfold Builtin.List.listItems;refine Z4 (wpAny_seqItems hS rfl (X5 ?_));show wpAny _ _ (updateSeq s.heap.objs.size (λ ξ=>#[])>>=λ ξ=>letGo (#[]:Array Value).toList.reverse>>=λ ξ=>Builtin.List.listExtendWith (.ref s.heap.objs.size) (.ref x) .none) _ _ _;refine Z4 (wpAny_updateSeq hS rfl ?_);have zU:=Heap.get?_update_self (Obj.mapSeq (λ ξ=>(#[]:Array Value))) hS rfl;have AP:∀b o,s.heap.get? b=some o->((s.heap.push {cls:=.type "list",data:=.seq #[]}).update s.heap.objs.size (Obj.mapSeq (λ ξ=>(#[]:Array Value)))).get? b=some o:=λ b o e=>
  (Heap.get?_update_other _ _ (Ne.symm (c4 b o e))).trans (cN _ e)
 have AQ:((s.heap.push {cls:=.type "list",data:=.seq #[]}).update s.heap.objs.size (Obj.mapSeq (λ ξ=>(#[]:Array Value)))).objs.size=s.heap.objs.size+1:=by rw [(Heap.SameBut.update ..).1,Heap.size_push]
 refine Z4 (wpAny_letGo ?_);generalize WH:s.heap.objs.size=S at*;generalize (s.heap.push {cls:=.type "list",data:=.seq #[]}).update S (Obj.mapSeq (λ ξ=>(#[]:Array Value)))=dJ at*;unfold Builtin.List.listExtendWith;refine Z4 (wpAny_typeOf (T:=T) ⟨ox,AP _ _ Qv,Gv⟩ ?_);have h1:Builtin.List.listSameRef (.ref S) (.ref x)=false:=by simp [Builtin.List.listSameRef,Ne.symm WG]
 have h2:(Value.type T==Value.type "list")=false:=by rcases hT with ⟨rfl,rfl⟩|⟨rfl,rfl⟩<;>decide
 have h3:(Value.type T==Value.type "tuple")=false:=by rcases hT with ⟨rfl,rfl⟩|⟨rfl,rfl⟩<;>decide
 rw [h1,h2,h3,if_neg bH];refine Z4 (Qu _ {s with heap:=dJ} _ _ AP ?_);have hI:(dJ.push X8).get? dJ.objs.size=some X8:=Heap.get?_push_size _ fv;have AR:∀b o,s.heap.get? b=some o->(dJ.push X8).get? b=some o:=λ b o e=>cN _ (AP b o e);have v3:=cN X8 zU;refine Z4 (XG (AO (s:={s with heap:=dJ.push X8}) ⟨ox,AR _ _ Qv,Gv⟩ hs hT ?_));have O9:d≠dJ.objs.size:=by rw [AQ];exact Nat.ne_of_lt (Nat.lt_succ_of_lt hd)
 have Iq:S≠dJ.objs.size:=by rw [AQ];exact Nat.ne_of_lt (Nat.lt_succ_self _)
 have Mz:S≠d:=Ne.symm (Nat.ne_of_lt hd);have aaQ:=(W dJ.objs.size O9).toS;have tv:S∉[dJ.objs.size,d]:=λ m=>by
  rcases cF m with q|m
  ·exact Iq q
  ·exact Mz (bj m)
 have a8:∀(h:Heap) (c₁:Nat),h.get? dJ.objs.size=some X8->(∀b o,s.heap.get? b=some o->h.get? b=some o)->h.get? S=some {cls:=.type "list",data:=.seq #[] c₁}->
   codeAny (model XX w) A.in1 (.builtin "list.extend.loop" ⟨[.ref S,.ref dJ.objs.size,.none],[]⟩) (wants (λ r aA=>r= .none/\Q (.ref S) aA) E) {s with heap:=h}:=by
  intro h c₁ hi hle zT;refine codeAny_extend_loopS aaQ hn S tv .none n 0 _ #[] c₁ rfl (Nat.zero_le _) (fh _ _ hi hle) zT (ItemsOf.nil _) λ s' Ir c' hm je yJ=>?_;have e:=Moved.eq_with hm;rw [e];refine ⟨rfl,hQ s'.heap s'.toks Ir c' (λ b o q=>hm.heap b o (λ m=>?_) (hle b o q)) je yJ⟩;rcases cF m with r|m
  ·exact c4 b o q r
  ·rw [bj m] at q;have:=Heap.lt_size q;rw [AQ,WH] at this;exact absurd this (Nat.not_lt.mpr (Nat.le_succ _))
 refine wpAny_ite_split (λ ξ=>?_) (λ ξ=>X5 ⟨plainId_quiet PySem.F.plain_extend_loop _,a8 _ _ hI AR v3⟩);refine Z4 (wpAny_rule ?_);refine Z4 ?_;show wpAny _ _ (updateSeq S (·.push .none)>>=λ ξ=>updateSeq S (·.pop)) _ _ _;refine Z4 (wpAny_updateSeq v3 rfl ?_);have xj:=Heap.get?_update_self (Obj.mapSeq (·.push Value.none)) v3 rfl;refine wpAny_updateSeq (hz:=by seq_fits) xj rfl ?_;have Qw:=Heap.get?_update_self (Obj.mapSeq (·.pop)) xj rfl;refine X5 ⟨plainId_quiet PySem.F.plain_extend_loop _,a8 _ _ ?_ (λ b o e=>?_) Qw⟩
 ·exact (Heap.get?_update_other _ _ Iq).trans ((Heap.get?_update_other _ _ Iq).trans hI)
 ·have hb:S≠b:=λ q=>c4 b o e q.symm;exact (Heap.get?_update_other _ _ hb).trans ((Heap.get?_update_other _ _ hb).trans (AR b o e))
def sY:∀{YN:List YJ} {vs:List Value},YN.length=vs.length->(∀(i:Nat) (P:YJ) (v:Value),YN[i]? =some P->vs[i]? =some v->P.p g v)->AllP g YN vs:=by
 intro YN;induction YN with
 |nil=>
  intro Z2;cases Z2 with
  |nil=>intro _ _;exact trivial
  |cons _ _=>intro h _;simp at h
 |cons P YN ih=>
  intro Z2;cases Z2 with
  |nil=>intro h _;simp at h
  |cons v vs=>intro h k;exact ⟨k 0 P v rfl rfl,ih (by simpa using h) λ i P v a b=>k (i+1) P v (by simpa using a) (by simpa using b)⟩
noncomputable def E3 (kvs:List (Tx×YJ)):YJ:=⟨λ h v=>∃YB d,v= .ref YB/\h.IsValuesView YB d/\mX h h d kvs,λ k ⟨YB,d,e,⟨o,a,b⟩,x⟩=>⟨YB,d,e,⟨o,k _ _ a,b⟩,x.mono k λ o e=>k _ _ e⟩⟩
def yx {ks:List Tx} (hh:A.handled=none) (hk:kvs.map (·.1)=ks) (hz:ks.length<=sizeLine):fJ A (.type "list") [gB kvs] (is ks):=λ S s vs T fr p=>by
 obtain ⟨v,rfl,d,rfl,jL,L,hd,B7,hv⟩:=p.one;subst hk;refine aM hd.dictAt λ ep tT=>?_;have lg:s.heap.DictAt (abh) d L ep:=tT.at' λ o e=>ao _ _ e;have c4:d<s.heap.objs.size:=lg.lt_size;have bl:L.length=kvs.length:=by have:=congrArg List.length B7;simpa using this
 refine xM (d:=d) (T:="dict") (.inl ⟨rfl,rfl⟩) PySem.F.slot_dict_len.lookup lg.dictOf.typeIs c4 rfl (λ A aj Q E k q=>wpAny_pyIter_dict (knd:=abh) jL (lg.keep k) q)
  (λ I fg=>Walks.dictKeys (prog:=XX) (w:=w) (knd:=abh) (A:=A.in1.in1) hh I d fg L ep) (λ I h hi k=>⟨⟨_,hi,rfl,rfl⟩,lg.keep k⟩) (by rw [bl];simpa using hz) λ h' tk aO c' k hl hi=>?_
 refine ⟨⟨h',tk,rfl,k⟩,is_list.mpr ⟨_,aO,c',rfl,?_,sY ?_ λ i P v a b=>?_⟩⟩
 ·show Heap.get? _ _=_;rw [bI,if_neg (eO fr (Nat.le_refl _))];exact hl
 ·have:=hi.1;simp only [lm,Array.length_toList];w_up
 ·rw [Array.getElem?_toList] at b;refine bu (hi.2 i v b) λ k' x e1 e2=>?_;refine aM (F1 e2) λ t dI=>?_;subst dI;rw [List.getElem?_map,List.getElem?_map] at a;have h1:(L.map (·.1))[i]? =some k':=by rw [List.getElem?_map,e1];rfl
  rw [B7,List.getElem?_map] at h1;cases hq:kvs[i]?with
  |none=>rw [hq] at a;cases a
  |some kv=>
   rw [hq] at a h1;cases a;exact bz.mpr ⟨t,by rw [<-Option.some.inj h1]⟩
def yy (hh:A.handled=none) (hz:kvs.length<=sizeLine):fJ A (.type "list") [E3 kvs] (cH (kvs.map (·.2))):=λ S s vs T fr p=>by
 obtain ⟨v,rfl,YB,d,rfl,Qx,jL,L,hd,B7,hv⟩:=p.one;refine aM hd.dictAt λ ep tT=>?_;have lg:s.heap.DictAt (abh) d L ep:=tT.at' λ o e=>ao _ _ e;have c4:d<s.heap.objs.size:=lg.lt_size;have bl:L.length=kvs.length:=by have:=congrArg List.length B7;simpa using this
 have Go:s.heap.IsValuesView YB d:=let ⟨o,a,b⟩:=Qx;⟨o,ao _ _ a,b⟩;refine xM (d:=d) (T:="dict_values") (.inr ⟨rfl,rfl⟩) PySem.F.slot_dict_values_len.lookup Go.typeIs c4 rfl (λ A aj Q E k q=>wpAny_pyIter_values (knd:=abh) (let ⟨o,a,b⟩:=Go;⟨o,k _ _ a,b⟩) (lg.keep k) q)
  (λ I fg=>Walks.dictValues (prog:=XX) (w:=w) (knd:=abh) (A:=A.in1.in1) hh I d fg L ep) (λ I h hi k=>⟨⟨_,hi,rfl,rfl⟩,lg.keep k⟩) (by rw [bl];exact hz) λ h' tk aO c' k hl hi=>?_
 refine ⟨⟨h',tk,rfl,k⟩,_,aO,c',rfl,?_,sY ?_ λ i P v a b=>?_⟩
 ·show Heap.get? _ _=_;rw [bI,if_neg (eO fr (Nat.le_refl _))];exact hl
 ·have:=hi.1;simp only [lm,Array.length_toList];w_up
 ·rw [Array.getElem?_toList] at b;refine aM (hi.2 i v b) λ k' e1=>?_;refine aK (hv.get (i:=i) a) λ u g1 g2=>?_;rw [List.getElem?_map,e1] at g1;rw [show v=u from Option.some.inj g1];exact P.mono (aJ k) g2
def C3 (hz:Ev A sc ρ o (gB kvs)) (he:∀aa,∃pl:Sem Bool,eval (.Call (.Attribute o "values" bE) [] [] ar) aa=(do
   let ov<-eval o aa
   standAt bE.atName
   let (f,first)<-holding [ov] (getMethod ov "values" pl)
   callWith ar f first (backTo ar (starEach [] aa)) [])):Ev A sc ρ (.Call (.Attribute o "values" bE) [] [] ar) (E3 kvs):=λ S aa s c=>by
 refine aM (he aa) λ pl e=>?_;rw [e];refine Z4 (hz.use c λ v aj k₁ c₁ aZ=>Z4 (ig (Z4 (XG ?_))));obtain ⟨d,rfl,jL,L,hd,B7,hv⟩:=aZ;refine aM hd.dictAt λ ep tT=>?_;have lg:aj.heap.DictAt (abh) d L ep:=tT.at' λ o e=>ao _ _ e;have o8:aj.heap.DictOf (abh) d L:=lg.dictOf;refine getMethod_builtin o8.typeIs PySem.F.plainAttrs_dict PySem.F.slot_dict_values PySem.F.type_dict_values o8.mapOf.noDict ?_;refine eg abl (wpAny_items_nil ⟨trivial,?_⟩);refine call_meetsIn PySem.F.slot_dict_values o8.typeIs PySem.F.entry_dict_values (PySem.F.args_dict_values_1 _) (meets_dict_values (abh) d jL) ⟨⟨L,o8⟩,?_⟩;have up:XN (hide S aj.heap) (hide S (aj.heap.push {cls:=.type "dict_values",data:=.fields #[.ref d]})):=aJ λ ξ ξ e=>cN _ e;exact ⟨aL k₁ (gK aj _ aj.toks),_,d,rfl,⟨_,eZ c₁.b4 rfl,rfl,rfl⟩,mX.mono up (λ o e=>up _ _ e) ⟨jL,L,hd,B7,hv⟩⟩
def lJ {ι:Type} (kf:ι->Tx) (Yt:ι->YJ) (L:List ι):List (Tx×YJ):=L.foldl (λ kvs a=>fT kvs (kf a) (Yt a)) []
def E4 {kf:ι->Tx} {Yt:ι->YJ} {L:List ι}:(lJ kf Yt L).length<=L.length:=by
 have a8:∀(L:List ι) (kvs:List (Tx×YJ)),(L.foldl (λ kvs a=>fT kvs (kf a) (Yt a)) kvs).length<=kvs.length+L.length:=by
  intro L;induction L with
  |nil=>intro kvs;exact Nat.le_refl _
  |cons a L ih=>
   intro kvs;rw [List.foldl_cons,List.length_cons];have h1:=ih (fT kvs (kf a) (Yt a));have h2:(fT kvs (kf a) (Yt a)).length<=kvs.length+1:=by
    unfold fT;split
    ·rw [lm];w_up
    ·rw [gD];exact Nat.le_refl _
   w_up
 have:=a8 L [];rw [List.length_nil,Nat.zero_add] at this;exact this
def K3 (o:Obj) (L:List (Str×Value)):Prop:=∃es ep,o.ExactDict/\o.data= .dict es ep/\KeysOf (abh) es/\Pairs (abh) es.toList L/\(L.map (·.1)).Nodup
def C4 {d:Addr} {o:Obj} {L:List (Str×Value)} (e:h.get? d=some o) (x:K3 o L):h.DictOf (abh) d L:=let ⟨es,ep,r⟩:=x;⟨o,es,ep,e,r⟩
def C5 {d:Addr} {L:List (Str×Value)} (x:h.DictOf (abh) d L):∃o,h.get? d=some o/\K3 o L:=let ⟨o,es,ep,e,r⟩:=x;⟨o,e,es,ep,r⟩
def AS {ai:List ι} {abL:ι->YJ} {kx vx:Expr} {β:ι->eV} {kf:ι->Tx} {Yt:ι->YJ}
  (ok:fS sc ρ ag) (hs:jP A sc ρ aG ai abL Ok) (iG:∀aa x,foldedSetIterable aG aa x=pure x) (bl:ai.length<=sizeLine) (g8:Ok aN)
  (ht:∀a∈ai,jn A (cg sc ag.names) (ownOf ag) aN (abL a) (β a))
  (WI:∀a∈ai,Ev A (cg sc ag.names) (β a++e7 ag ρ) kx (is (kf a)))
  (WJ:∀a∈ai,Ev A (cg sc ag.names) (β a++e7 ag ρ) vx (Yt a)):
  Ev A sc ρ (.DictComp kx vx [⟨aN,aG,[],0⟩] ag ar) (gB (lJ kf Yt ai)):=λ S aa s c=>by
 rw [arm_eval_DictComp];refine oi (ai:=ai) (e:=.DictComp kx vx [⟨aN,aG,[],0⟩] ag ar) (gs:=[]) (p:=λ ξ=>true) (β:=β) (use:=none)
  (cJ:=λ D aa=>do
   let kv<-eval kx aa
   let YD<-holding [kv] (eval vx aa)
   match D with
   | .ref d=>do
    standAt {kx.pos with endLine:=vx.pos.endLine,endCol:=vx.pos.endCol}
    holding [kv,YD] (dictSet d kv YD)
   |_=>unsupported "internal:dictcomp")
  (Acc:=λ i g o=>∃L:List (Str×Value),K3 o L/\L.map (·.1)=(lJ kf Yt (ai.take i)).map (λ p:Tx×YJ=>p.1.s)/\AllP g ((lJ kf Yt (ai.take i)).map (λ p:Tx×YJ=>p.2)) (L.map (λ p:Str×Value=>p.2)))
  ok hs iG bl g8 ht (λ a ξ=>fy) rfl (λ s Q k=>?_) (λ {i g g' o} le x=>let ⟨L,a,b,d⟩:=x;⟨L,a,b,AllP.mono le d⟩) (λ i hi g o hp=>by cases hp) (λ i hi ξ S' cenv D s o cx Zt hD h1 h2 ho ha=>?_) (λ it D cenv=>by rfl) (λ ξ ξ ξ=>rfl) (λ ξ ξ ξ=>rfl) (λ ξ ξ ξ=>rfl) (λ it aO cenv R s h0 h=>codeAny_compStart_dict h0 h) c λ D C s' k Zj Zw ne Dy hn hw=>?_
 ·refine wpAny_newObj_type ?_;refine k _ rfl λ g=>eX [] ?_ rfl trivial;refine aK (C5 (Heap.DictOf.new (knd:=abh) s.heap)) λ o q x=>?_;rw [Heap.get?_push_size _ rfl] at q;cases q;exact x
 ·unfold oh;refine Z4 ((WI _ (List.getElem_mem hi)).use cx λ kv aj k₁ c₁ aZ=>Z4 (XG ((WJ _ (List.getElem_mem hi)).use c₁ λ YD aA k₂ c₂ cG=>?_)));refine cZ ha λ L a b d=>?_;have iA:=aL k₁ k₂;have Qy:=kle iA _ _ ho;have tQ:iV (ownOf ag) S' cenv aA.heap:=Zt.le (kle iA);refine aM (bz.mp aZ) λ t d6=>?_;subst d6;have T7:L.length<=sizeLine:=by have e1:=congrArg List.length b;rw [lm,lm] at e1;have:=E4 (kf:=kf) (Yt:=Yt) (L:=ai.take i);rw [List.length_take] at this;w_up
  refine Z4 (ig (XG (wpAny_dictSet_pairs (hsz:=T7) (knd:=abh) (km _ t) (C4 Qy a) λ h' hm hs=>?_)));refine aK (C5 hm) λ o' pF x'=>?_;have aaH:abO S' s {aA with heap:=h',toks:=aA.toks+1}:=(abO.of iA).trans ((abO.set hs λ ξ ξ=>⟨_,pF⟩).more λ b hb=>by rw [bj hb];exact hD);have le:XN (hide S' aA.heap) (hide S' h'):=b5 λ b o nb e=>(hs.2 b λ q=>nb (q▸hD)).trans e;have fh:lJ kf Yt (ai.take (i+1))=fT (lJ kf Yt (ai.take i)) (kf ai[i]) (Yt ai[i]):=by unfold lJ;rw [List.take_add_one,List.getElem?_eq_getElem hi,Option.toList,List.foldl_append];rfl
  refine cO (we (k:=kf ai[i]) (P:=Yt ai[i]) (v:=YD) b ((d.mono (aJ (kle iA))).mono le) ((Yt ai[i]).mono le cG)) λ abe aaL=>?_;refine ph o' pF ⟨_,x',by rw [fh];exact abe,by rw [fh];exact aaL⟩ aaH (tQ.keep (λ o e=>(hs.2 _ (Ne.symm h1)).trans e) (λ n ξ cc q o e=>(hs.2 _ λ z=>h2 n (z▸q)).trans e)) (λ b o n1 n2 ZV e=>(hs.2 b n1).trans (kle iA _ _ e))
 ·refine aM hn λ m hm=>?_;obtain ⟨o,ho,L,a,b,d⟩:=hw;rw [List.take_length] at b d;refine ⟨m,hm,λ h' gA=>⟨?_,D,rfl,Dy,L,?_,b,d.mono ?_⟩⟩
  ·refine bu k λ dg mq eL kk=>?_;subst eL;refine d8 h' mq rfl (λ b o e=>(gA.2 b ?_).trans (kk b o e));rintro rfl;rw [Zj] at e;cases e
  ·have e9:D∉S:=λ m=>by refine aM (c.b4 D m) λ o e=>?_;rw [Zw] at e;cases e
   refine C4 ?_ a;rw [bI,if_neg e9];exact (gA.2 D (Ne.symm ne)).trans (ao _ _ ho)
  ·refine XN.trans (b5 (S:=C::S) λ b o hb e=>?_) (cT λ b hb=>Ym _ hb);exact (gA.2 b λ q=>hb (q▸di)).trans e
def yz {np:Pos} {e1 e2:Expr} {xs:List Tx} (hf:Ev A sc ρ (.Name nm np) (lit (.ref aa9))) (h1:Ev A sc ρ e1 aV) (h2:Ev A sc ρ e2 (is xs)) (hz:xs.length<=1000) (hk:vh (.ref aa9)) (ho:fJ A (.ref aa9) (aV::xs.map is) P)
  (fh:∀aa,starEach [e1,.Starred e2 sp] aa=[(false,eval e1 aa),(true,eval e2 aa)]):Ev A sc ρ (.Call (.Name nm np) [e1,.Starred e2 sp] [] ar) P:=λ S aa s c=>by
 have hl:=br;show wpAny _ A (do callWith ar (<-eval (.Name nm np) aa) [] (backTo ar (starEach [e1,.Starred e2 sp] aa)) []) _ _ s;rw [fh];refine Z4 (hf.use c λ v aj k₁ c₁ aZ=>?_);rw [show v= .ref aa9 from aZ];show wpAny _ _ (callWith ar (.ref aa9) [] [(false,eval e1 aa),(true,do let v<-eval e2 aa;standAt ar;pure v)] []) _ _ _;unfold callWith;refine Z4 (XG ?_);unfold evalArgs;refine Z4 (Z4 ?_);unfold spliced;refine h1.use c₁ λ a aA k₂ c₂ cG=>?_;rw [if_neg (by simp)];refine Z4 (X5 (Z4 (XG (Z4 ?_))));refine Z4 (h2.use c₂ λ u aH iq lN k4=>Z4 (ig (X5 ?_)));refine bw (is_list.mp k4) λ l vs n cX ha pa=>?_;subst cX;have T8:=pa.length;rw [Array.length_toList,lm] at T8;have hg:aH.heap.get? l=some _:=ao _ _ ha;rw [if_pos rfl];refine Z4 ?_;unfold notIterableAtAll;refine Z4 (wpAny_specialOf (T:="list") ⟨_,hg,rfl⟩ slot_list_iter.lookup ?_);refine X5 ?_;rw [if_neg (by simp)];refine Z4 ?_;refine wpAny_collect_seq l (T:="list") (.inl rfl) hg rfl rfl (λ h' dE=>?_) (by rw [T8];w_up);refine Z4 (XG (X5 (X5 (X5 (Z4 (X5 ?_))))));refine XG ?_;rw [if_pos abl];refine Z4 (X5 (Z4 (X5 (X5 ?_))));refine Z4 (ig ?_);have lO:XK sc ρ S aa h':=lN.mono dE;have kk:Keeps s {aH with heap:=h'}:=aL (aL (aL k₁ k₂) iq) ⟨h',aH.toks,rfl,dE⟩;refine bu (hk.ok (lO.top.mono ao)) λ o fd PV WK=>?_;refine Z4 (m:=keeperOf (.ref aa9)) ?_;unfold keeperOf;refine Z4 (wpAny_load (s:={aH with heap:=h'}) PV ?_);rw [WK];refine X5 ?_;have go:=ho S {aH with heap:=h'} (a::vs.toList) lO.top lO.b4 ⟨aV.mono (aJ ((kle iq).trans dE)) cG,pa.mono (aJ dE)⟩;have e3:[]++([a]++(vs.toList++[]))=a::vs.toList:=by simp
 show wpAny _ _ (callMarked starredCall (.ref aa9) ([]++([a]++(vs.toList++[]))) []>>=λ r=>holding [r] point>>=λ ξ=>pure r) _ _ _;rw [e3];refine Z4 (by unfold callMarked;exact Calls.wpAny_keep (Zh go (λ r bY q=>Z4 (XG (wpAny_point (X5 ⟨aL kk q.1,q.2⟩)))) dp))
def lY (n k:Int):pieceAt n k∈table:=by
 unfold pieceAt;rw [List.getD_eq_getElem?_getD];cases q:table[((fP n).getD k.toNat 0).toNat]?with
 |none=>simp [table]
 |some x=>exact List.mem_of_getElem? q
def xN (n:Int):nZ (b6 n)=true:=Hx _ (lY n 0) _ (lY n 1) _ (lY n 3)
def C6 (n:Int):(b6 n).length=3/\∀c∈b6 n,c.cs.length<=2:=by
 refine ⟨rfl,λ c hc=>?_⟩;have a8:∀c∈table,c.cs.length<=2:=by decide
 have:c∈table:=by refine aK (abQ hc) λ k ξ cX=>?_;subst cX;exact lY n k
 exact a8 c this
def zz (n:Int):gQ (b6 n)∈bb:=by have h:=xN n;unfold nZ at h;simp only [Bool.and_eq_true,decide_eq_true_eq] at h;exact h.2
def YQ.Qz {g:Value} (f:YQ sc ak F aw az aa ρ (K.and jT) S s) (j0:∀b∈jT.fp,b∉K.fp) (iP:∀b∈gS.fp,b∈jT.fp) (op:wu A g YN jT gS P) (p:AllP (hide S s.heap) YN vs)
  (k:∀v s',YQ sc ak F aw az aa ρ (K.and gS) S s'->XN (hide S s.heap) (hide S s'.heap)->P.p (hide S s'.heap) v->Y9 v s'):wpAny (model XX w) A (call g vs []) Y9 E s:=by
 have hS:∀b∈jT.fp,b∈S:=λ b m=>(f.aar b (bC _ m)).1;refine Zh (op S s vs f.cx.top f.cx.b4 hS f.jp.2 p) (λ v s' q=>?_) λ ξ ξ q=>q.elim;refine eU q λ aaH X' pv=>?_;refine cS aaH.same λ h' tk d6=>?_;subst d6;have le:=iZ (S:=S) (N:=[]) hS aaH.keep (λ b m=>nomatch m);exact k v _ (f.step (N:=[]) (D:=jT.fp) (aa_:=K.and gS) (λ b m=>bC _ m) aaH.keep (λ b m=>let ⟨o,e⟩:=f.cx.b4 b (hS b m);aaH.live b o e) (λ b m=>nomatch m) (λ b m=>nomatch m)
  ⟨K.st le ao ao (λ b m o e=>aaH.keep b o (λ q=>j0 b q m) e) f.jp.1,X'⟩ λ b m=>by
   rcases bR m with m|m
   ·exact .inl (bL _ m)
   ·exact .inl (bC _ (iP b m))) le pv
def C7 {np:Pos} {aE:List Expr} (f:YQ sc ak F aw az aa ρ (K.and jT) S s) (j0:∀b∈jT.fp,b∉K.fp) (iP:∀b∈gS.fp,b∈jT.fp) (hk:vh (.ref aa9)) (op:wu A (.ref aa9) YN jT gS P)
  (hg:Ev A sc ρ (.Name fn np) (lit (.ref aa9))) (ha:nE A sc ρ aE YN) (uV:eT aE) (hx:cw ak sc z=true)
  (hs:∀aa:Env,aa.scope.kind= .function->aa.scope.names=sc->swapsWith (.Call (.Name fn np) aE [] be) (some (.Name z YA)) ar.line aa=pure false)
  (k:∀s',YQ sc ak F aw az aa ((z,P)::ρ) (K.and gS) S s'->wpAny (model XX w) A (execs aD aa) Q E s'):
  wpAny (model XX w) A (execs (.Assign [.Name z YA] (.Call (.Name fn np) aE [] be) ar::aD) aa) Q E s:=by
 refine YF (wpAny_Assign_Name (hs:=hs aa f.cx.kind f.cx.names) ?_);show wpAny _ A (do callWith _ (<-eval (.Name fn _) aa) [] (backTo _ (starEach aE aa)) []) _ _ s;refine Z4 (hg.use f.cx λ v aj k₁ c₁ aZ=>?_);rw [show v= .ref aa9 from aZ];refine eg (uV aa be) (Zh (ha S aa be aj c₁) (λ vs aA q=>⟨hk.ok ((c₁.mono (kle q.1)).top.mono ao),?_⟩) eY);exact (f.keep (aL k₁ q.1)).Qz j0 iP op q.2 λ v aH f ξ pv=>f.store hx pv k
def oT {β:Type} [aaK α] [aaK β] [aaK γ] {t:X7 α β γ} {a b c:Str} {pa pc:Pos} (hh:A.handled=none) (ha:cw ak sc a=true) (hb:cw ak sc b=true) (hc:cw ak sc c=true):jn A sc ak (.Tuple [.Name a pa,.Name b pb,.Name c pc] k ar) (is t) [(c,is t.c),(b,is t.b),(a,is t.a)]:=
 λ ρ S aa s z Q E cx o p h=>mh (xs:=[(a,pa),(b,pb),(c,pc)]) (YN:=[is t.a,is t.b,is t.c]) hh rfl (λ x m=>by
  rcases cF m with rfl|m
  ·exact ha
  ·rcases cF m with rfl|m
   ·exact hb
   ·rw [bj m];exact hc) ρ S aa s z Q E cx o (Dg.mp p) h
def E5 {t:Turn}:fm A getItem (is t) (is (3:Int)) (is t.d):=
 kT (kF (YN:=[is t.a,is t.b,is t.c,is t.d,is t.e]) (i:=3) (by w_up) (by w_up) rfl) (λ ξ ξ=>s9.mp) (λ ξ ξ h=>h) λ ξ ξ h=>h
def E6 {t:Turn}:fm A getItem (is t) (is (2:Int)) (is t.c):=
 kT (kF (YN:=[is t.a,is t.b,is t.c,is t.d,is t.e]) (i:=2) (by w_up) (by w_up) rfl) (λ ξ ξ=>s9.mp) (λ ξ ξ h=>h) λ ξ ξ h=>h
def AU {t:Int×Bool}:fm A getItem (is t) (is (1:Int)) (is t.2):=
 kT (kF (YN:=[is t.1,is t.2]) (i:=1) (by w_up) (by w_up) rfl) (λ ξ ξ=>kS.mp) (λ ξ ξ h=>h) λ ξ ξ h=>h
def C8 {t:Turn}:l8 (is t) "tuple":=λ s v p=>vf (YN:=[is t.a,is t.b,is t.c,is t.d,is t.e]) s v (s9.mp p)
def K4 {t:Int×Bool}:l8 (is t) "tuple":=λ s v p=>vf (YN:=[is t.1,is t.2]) s v (kS.mp p)
def xO (h:nZ ps=true) (abx:cy 3 A):fJ A (.ref 298) [is (cj aF ps)] (is (Zl (gQ ps))):=by
 have hm:gQ ps∈bb:=by unfold nZ at h;simp only [Bool.and_eq_true,decide_eq_true_eq] at h;exact h.2
 unfold nZ at h;simp only [Bool.and_eq_true,decide_eq_true_eq,Bool.not_eq_true',List.all_eq_true] at h;refine cO h λ dI h8=>?_;refine cO dI λ wA abg=>?_;refine cO wA λ T9 h6=>?_;refine cO T9 λ Ua h5=>?_;refine cO Ua λ Ub h4=>?_;refine cO Ub λ Uc h3=>?_;refine cO Uc λ h1 h2=>?_;have e:cj aF ps=Tx.mk ('/'::(cj aF ps).cs.drop 1):=by
  generalize cj aF ps=u at*;obtain ⟨cs⟩:=u;cases cs with
  |nil=>simp at h1
  |cons c cs=>
   simp at h1;show Tx.mk _=Tx.mk _;rw [h1];rfl
 rw [e];refine gF (iU _ hm) λ m1 m2 m3 m4 Yv YO=>?_;have bl:∀c∈gQ ps,c.cs.length<=100:=λ c hc=>by have:=YO c hc;w_up
 have hj:=u1 (gQ ps) 2 YO;show fJ A (.ref 298) _ (is (aF++abj (gQ ps)));refine Aq abx (by w_up) h2 h4 (by w_up) (λ c hc=>?_) (by rw [abg];exact sU _) (by rw [abg];exact joinOk_of (by w_up) bl) (by have:(gQ ps).length*(2+1)<=3*3:=Nat.mul_le_mul Yv (Nat.le_refl _);w_up)
 have:=h6 c hc;w_up
def xP (h1:ps.length=3) (h2:∀c∈ps,c.cs.length<=2) (abx:cy 2 A):fJ A (.ref 277) (is aF::ps.map is) (is (cj aF ps)):=
 nw abx bH (λ b hb=>by have:=h2 b hb;w_up) (by w_up)
def MA {ns:List Tx} (hn:ns∈bb) (hm:ms∈bb) (abx:cy 9 A):fJ A (.ref 303) [cH [is (Zl ns),is (Zl ms)]] (is (rg (Zl ns) (Zl ms))):=by
 refine gF (iU _ hn) λ n1 n2 ZV aa5 YS abq=>?_;refine gF (iU _ hm) λ m1 m2 m3 m4 Yv YO=>?_;refine eU (KU ns hn ms hm) λ c1 c2 c3=>?_;refine gF (iU _ c2) λ d1 d2 d3 Zx aao Ye=>?_;unfold rg;rw [mO hn,mO hm];have MB:∀{ns:List Tx},ns∈bb->((⟨[]⟩:Tx)::lR ns).length<=100/\∀c∈((⟨[]⟩:Tx)::lR ns),c.cs.length<=100:=λ {ns} h=>by
  refine gF (iU _ h) λ n1 n2 ZV aa5 YS abq=>?_;unfold lR;split
  ·exact ⟨by simp,λ c hc=>by
    rcases cF hc with rfl|hc
    ·simp
    ·rw [bj hc];simp⟩
  ·exact ⟨by rw [List.length_cons];w_up,λ c hc=>by
    rcases cF hc with rfl|hc
    ·simp
    ·have:=abq c hc;w_up⟩
 have hj:=u1 (EV ns ms) 2 Ye;show fJ A (.ref 303) _ (is (aF++abj (EV ns ms)));refine wR (sp:=(⟨[]⟩:Tx)::lR ns) (abm:=(⟨[]⟩:Tx)::lR ms) (gu:=CO ns ms) (s2:=Gm ns ms) abx (by w_up) (by w_up) (zw ns hn) (zw ms hm) (MB hn).1 (MB hm).1 (MB hn).2 (MB hm).2 (CN ns hn) (CN ms hm)
  (by rw [u3 ns hn,u3 ms hm];rfl) (by rw [u3 ns hn,u3 ms hm];rfl) (λ i h1 h2=>?_) (sU _) (joinOk_of (by show (EV ns ms).length<=100;w_up) λ c hc=>by have:=Ye c hc;w_up) (by have:(EV ns ms).length*(2+1)<=3*3:=Nat.mul_le_mul aao (Nat.le_refl _);w_up)
 have:=List.all_eq_true.mp c3 i (List.mem_range.mpr h1);simpa [h2] using this
def E7 {xs:List (Int×Bool)} (abx:cy (n+1) A):fJ A (.builtin "max") [is ((-1,true)::xs)] (is (fZ (-1,true) xs)):=by
 have hl:((-1,true)::xs:List (Int×Bool)).length=xs.length+1:=rfl;let bt:Nat->Nat->Bool:=λ i j=>gU (((-1,true)::xs:List (Int×Bool)).getD i (-1,true)) (((-1,true)::xs:List (Int×Bool)).getD j (-1,true));have KY:∀i j (hi:i<((-1,true)::xs:List (Int×Bool)).length) (hj:j<((-1,true)::xs:List (Int×Bool)).length),bt i j=gU ((-1,true)::xs:List (Int×Bool))[i] ((-1,true)::xs:List (Int×Bool))[j]:=λ i j hi hj=>by show gU _ _=_;rw [List.getD_eq_getElem?_getD,List.getD_eq_getElem?_getD,List.getElem?_eq_getElem hi,List.getElem?_eq_getElem hj];rfl
 have best:=HB KY rfl;refine aM (best xs.length (by rw [hl];w_up)) λ b1 b2=>?_;rw [List.take_length] at b2;refine fJ.conv (Fw (ai:=((-1,true)::xs:List (Int×Bool))) (abL:=is) (bt:=bt) abx.handled (by rw [hl];w_up) (λ i j hi hj=>?_) (λ k hk=>(best k hk).1) (a:=fZ (-1,true) xs) ?_) (λ h vs p=>?_) dp
 ·rw [KY i j hi hj];exact EX abx.in1
 ·rw [show ((-1,true)::xs:List (Int×Bool)).length - 1=xs.length by rw [hl];w_up,List.getElem?_eq_getElem b1,b2]
 ·cases vs with
  |nil=>exact p.elim
  |cons v vs=>cases vs with
   |nil=>exact ⟨is_list.mp p.1,trivial⟩
   |cons _ _=>exact p.2.elim
def AV {Yt:Tx->YJ}:∀(L:List Tx),L.Nodup->lJ (λ a=>a) Yt L=L.map λ a=>(a,Yt a):=λ L=>by
 have a8:∀(L done:List Tx),(done++L).Nodup->L.foldl (λ kvs a=>fT kvs a (Yt a)) (done.map λ a=>(a,Yt a))=(done++L).map λ a=>(a,Yt a):=by
  intro L;induction L with
  |nil=>intro done _;rw [List.append_nil];rfl
  |cons a L ih=>
   intro done hn;have ha:a∉done:=λ m=>by rw [List.nodup_append] at hn;exact hn.2.2 a m a di rfl
   have e:fT (done.map λ a=>(a,Yt a)) a (Yt a)=(done++[a]).map λ a=>(a,Yt a):=by
    unfold fT;rw [if_neg]
    ·rw [List.map_append];rfl
    ·intro q;refine aK (List.any_eq_true.mp q) λ kv oS c=>?_;refine aK (abQ oS) λ b hb fO=>?_;subst fO;have c:b=a:=by simpa using c
     exact ha (c▸hb)
   rw [List.foldl_cons,e,ih (done++[a]) (by rw [List.append_assoc];exact hn),List.append_assoc];rfl
 intro hn;have:=a8 L [] (by simpa using hn);simpa [lJ] using this
def C9 {Yt:Tx->YJ} {L:List Tx} (hn:L.Nodup) {a:Tx} (ha:a∈L):mx (lJ (λ a=>a) Yt L) a=some (Yt a):=by
 rw [AV L hn];unfold mx;cases q:(L.map λ a=>(a,Yt a)).find? λ kv=>decide (kv.1=a) with
 |none=>exact absurd (List.find?_eq_none.mp q (a,Yt a) (List.mem_map.mpr ⟨a,ha,rfl⟩)) (by simp)
 |some kv=>
  have h1:=List.find?_some q;have h1:kv.1=a:=by simpa using h1
  refine aK (abQ (List.mem_of_find?_eq_some q)) λ b ξ e=>?_;have e1:kv.1=b:=by rw [<-e]
  have e2:kv.2=Yt b:=by rw [<-e]
  show some kv.2=_;rw [e2,<-e1,h1]
def MC {a b c d:Str} {xB:YJ} (h:∀v u y z,bindArgs fd ⟨[v,u,y,z],[]⟩=pure [(a,v),(b,u),(c,y),(d,z)]):kH fd [gZ,aV,a6,xB] [(a,gZ),(b,aV),(c,a6),(d,xB)]:=pM λ s vs e=>by refine bu (IS e) λ v us q e=>?_;refine jj (NB e) λ u y z r=>?_;subst q r;exact ⟨_,BindsTo.of_eq (h v u y z),λ h p=>⟨rfl,p.1,rfl,p.2.1,rfl,p.2.2.1,rfl,p.2.2.2.1,trivial⟩⟩
abbrev Ud:ly:=(gE (fk 34)).names
abbrev Ue:List Str:=ownOf (gE (fk 34))
def oU (A:Around) (aa:Env) (F aw:List Addr) (az:Shared) (Q:Flow->Shared->Prop) (K:XW) (ah a7 bJ past av cC kC gx:List Tx) (aq:List (Tx×Tx)) (ae:List Int) (aW:List Turn) (D:Addr) (b7:Tx) (act:Bool) (i:Nat):Prop:=∀{S:List Addr} {s:Shared} (aY:cy 0 A) (hp:ah.length<=100) (hc:∀c∈ah,c.cs.length<=1000) (hk:∀p∈ah,p∈aq.map (·.1)) (hg:av.length<=1000) (hn:0<ae.length) (jz:ae.length<=1000) (nO:i<ah.length) (abo:a7.length<=100) (YE:bJ.length<=1000) (bp:past.length<=1000) (MD:(nextOf ah aq (cC++gx)).length<=100) (xC:aW.length<=100) (KD:pick (fQ ah bJ) (numAt ae i)=b7) (zt:(!decide (a7=[])||!decide (bJ=[]))=act) (CK:cu av a7=cC) (ES:c9 av a7 bJ=kC) (yu:df cC kC (numAt ae i)=gx) (sK:D∉K.fp) (f:YQ Ud Ue F aw az aa [("step",is (i:Int)),("turns",lit (.ref D)),("hand",is bJ),("past",is past),("given",is a7),("numbers",is ae),("good",is av),("above",gB (iB aq)),("pages",is ah)] (K.and ((dc D (aW.map is)).and Y8)) S s) (hQ:∀s',YQ Ud Ue F aw az aa [("turns",lit (.ref D)),("hand",is (kC.filter λ c=>!decide (c∈gx))),("past",is (past++cC++gx)),("given",is (nextOf ah aq (cC++gx))),("numbers",is ae),("good",is av),("above",gB (iB aq)),("pages",is ah)] (K.and ((dc D ((aW++[(⟨kB++b7++nY++wordsOf past b7,⟨a7⟩,cC,gx,says ([act,act]++fM av a7)⟩:Turn)]).map is)).and Y8)) S s'->Q .next s'),wpAny (model XX w) A (execs (J' ((m9 (fk 34)).drop 1)) aa) Q dj s
namespace dueTurn1_v
def aau:=ev (U (U (U (U (U (U (U (U (U (U (U (U (U (U (U (U (U (U (U (U (U oU)))))))))))))))))))))
def abN:=aau.1.1.1.1.1.1.1.1.1.1.1.1.1.1.1.1.1.1.1.1.1
def d7:=aau.1.1.1.1.1.1.1.1.1.1.1.1.1.1.1.1.1.1.1.1.2
def aaV:=aau.1.1.1.1.1.1.1.1.1.1.1.1.1.1.1.1.1.1.1.2
def lE:=aau.1.1.1.1.1.1.1.1.1.1.1.1.1.1.1.1.1.1.2
def lF:=aau.1.1.1.1.1.1.1.1.1.1.1.1.1.1.1.1.1.2
def XD:=aau.1.1.1.1.1.1.1.1.1.1.1.1.1.1.1.1.2
def ZT:=aau.1.1.1.1.1.1.1.1.1.1.1.1.1.1.1.2
def aX:=aau.1.1.1.1.1.1.1.1.1.1.1.1.1.1.2
def b3:=aau.1.1.1.1.1.1.1.1.1.1.1.1.1.2
def ew:=aau.1.1.1.1.1.1.1.1.1.1.1.1.2
def jb:=aau.1.1.1.1.1.1.1.1.1.1.1.2
def ez:=aau.1.1.1.1.1.1.1.1.1.1.2
def fc:=aau.1.1.1.1.1.1.1.1.1.2
def cU:=aau.1.1.1.1.1.1.1.1.2
def fG:=aau.1.1.1.1.1.1.1.2
def oQ:=aau.1.1.1.1.1.1.2
def aI:=aau.1.1.1.1.1.2
def b9:=aau.1.1.1.1.2
def ZA:=aau.1.1.1.2
def d4:=aau.1.1.2
def iT:=aau.1.2
def Yh:=aau.2
def Zk:oU abN d7 aaV lE lF XD ZT aX b3 ew jb ez fc cU fG oQ aI b9 ZA d4 iT Yh:=by
 intro S s aY hp hc hk hg hn jz nO abo YE bp MD xC KD zt CK ES yu sK f hQ;have hl:=br;refine eU (zp (xs:=aI) (i:=Yh) hn) λ n1 n2 ZV=>?_;refine aU f (P:=is (numAt aI Yh)) (cP (aV:=is aI) (a6:=is (((Yh:Int)).fmod (aI.length:Int))) af (c6 af (ba (f:=.builtin "len") (YN:=[is aI]) aQ (au af aB) aR trivial (dM (by w_up))) (iW (by w_up))) (dD n1 (by w_up) ZV) ty_list PySem.F.slot_list_getitem.lookup) abd aR λ aH f=>?_;have TL:=Cz aX ew;have xD:=CA aX ew;refine aU f (P:=is (fQ aX ew)) (by
  rw [Gd];exact c6 (cK (ai:=aX) (abL:=is) (β:=λ c=>[("page",is c)]) (p:=λ p=>!decide (p∈ew)) (f:=λ c=>c) (Ok:=Plain) bV (bZ aY.handled af) (λ ξ ξ=>rfl) (by w_up) (.name _ _) (λ c ξ=>bB abd)
   (λ c tR=>e8 (bg (aV:=is c) (a6:=is ew) af af (jJ aY bH) abl)) (λ c ξ ξ=>af)) (cf (xs:=[aa8]) (au (cD aa8 abl) aB) (by rw [hl];decide)) (dm (by have:=List.length_filter_le (λ p=>!decide (p∈ew)) aX;rw [lm];have e:[aa8].length=1:=rfl;w_up))) abd aR λ bS f=>?_
 refine eU (qp (xs:=fQ aX ew) (n:=numAt aI Yh) xD) λ o1 o2 Yp=>?_;have zv:=tX (n:=numAt aI Yh) xD;rw [KD] at zv Yp;have zv:d4.cs.length<=1000:=by
  unfold fQ at zv;rcases bR zv with hm|hm
  ·exact hc _ (aa7 hm).1
  ·rw [bj hm];decide
 refine aU f (P:=is d4) (cP (aV:=is (fQ aX ew)) (a6:=is ((numAt aI Yh).fmod ((fQ aX ew).length:Int))) af (c6 af (ba (f:=.builtin "len") (YN:=[is (fQ aX ew)]) aQ (au af aB) aR trivial (dM (by w_up))) (iW (by w_up))) (dD o1 (by w_up) Yp) ty_list PySem.F.slot_list_getitem.lookup) abd aR λ bY f=>?_;refine aU f (P:=is (if d4∈jb then qo else Cx)) (tf (b:=decide (d4∈jb)) (bg (aV:=is d4) (a6:=is jb) af af (tc aY bH) abl) (λ h=>by rw [if_pos (by simpa using h)];exact cD qo abl) (λ h=>by rw [if_neg (by simpa using h)];exact cD Cx abl)) abd aR λ dK f=>?_;refine aU f (P:=is (wordsOf jb d4)) (tf (b:=decide (d4=aa8)) (bg (aV:=is d4) (a6:=is aa8) af (cD aa8 abl) (iE aY bH) abl) (λ h=>by rw [show wordsOf jb d4=Cy from if_pos (by simpa using h)];exact cD Cy abl) (λ h=>by rw [show wordsOf jb d4=_ from if_neg (by simpa using h)];exact af)) abd aR λ dT f=>?_;refine aU f (P:=is iT) (by rw [<-zt];exact Dl (P:=is (!decide (b3=[]))) (b:=!decide (b3=[])) (r3 (aV:=is b3) (a6:=is ([]:List Tx)) af (cf aB (Nat.zero_le _)) (iF aY bH)) gk (λ h=>by rw [h];exact dp) (λ h=>by rw [h];exact r3 (aV:=is ew) (a6:=is ([]:List Tx)) af (cf aB (Nat.zero_le _)) (iF aY bH))) abd aR λ mS f=>?_
 refine mW (ai:=b3) (abL:=is) (β:=λ c=>[("page",is c)]) (p:=λ ξ=>true) (g:=λ c=>decide (c∈ez)) (Ok:=Plain) f bV (bZ aY.handled af) (λ ξ ξ=>rfl) (by w_up) (.name _ _) (λ c ξ=>bB abd) (λ ξ ξ=>fy) (λ c tR ξ=>r3 (aV:=is c) (a6:=is ez) af af (tc aY bH)) abd (λ d7 h1 h2=>du d7 h1 h2 abd) λ gT f=>?_;rw [CB] at f;refine mW (ai:=b3) (abL:=is) (β:=λ c=>[("page",is c)]) (p:=λ c=>decide (c∈ez)) (g:=λ c=>c) (Ok:=Plain) f bV (bZ aY.handled af) (λ ξ ξ=>rfl) (by w_up) (.name _ _) (λ c ξ=>bB abd) (λ c ξ=>e8 (bg (aV:=is c) (a6:=is ez) af af (tc aY bH) abl)) (λ c tR ξ=>af) abd (λ d7 h1 h2=>du d7 h1 h2 abd) λ j3 f=>?_;have e2:((b3.filter λ c=>decide (c∈ez)).map λ c=>c)=cu ez b3:=by unfold cu;rw [List.map_id']
 rw [e2] at f;rw [CK] at f;have Qg:=zm ez b3 ew;have c4:=CC ez b3;rw [ES] at Qg;rw [CK] at c4;refine aU f (P:=is cU) (by
  have e3:c9 ez b3 ew=ew++((b3.filter λ p=>!decide (p∈ez)).map λ c=>c):=by unfold c9;rw [List.map_id']
  rw [<-ES,e3];exact c6 af (cK (ai:=b3) (abL:=is) (β:=λ c=>[("page",is c)]) (p:=λ p=>!decide (p∈ez)) (f:=λ c=>c) (Ok:=Plain) bV (bZ aY.handled af) (λ ξ ξ=>rfl) (by w_up) (.name _ _) (λ c ξ=>bB abd)
   (λ c tR=>e8 (bg (aV:=is c) (a6:=is ez) af af (jJ aY bH) abl)) (λ c ξ ξ=>af)) (dm (by rw [<-e3] at*;have:=List.length_filter_le (λ p=>!decide (p∈ez)) b3;rw [lm];w_up))) abd aR λ nS f=>?_
 refine aU f (P:=is fG) (tf (b:=decide (fc=[])&&(!decide (cU=[])&&true)) (fo (gm (bg (aV:=is fc) (a6:=is ([]:List Tx)) af (cf aB (Nat.zero_le _)) (iE aY bH) abl) λ ξ=>gm (bg (aV:=is cU) (a6:=is ([]:List Tx)) af (cf aB (Nat.zero_le _)) (iF aY bH) abl) λ ξ=>g9))
  (λ h=>by
   have h':fc=[]/\cU≠[]:=by simpa using h
   rw [<-yu,show df fc cU (numAt aI Yh)=[pick cU (numAt aI Yh)] from if_pos h'];refine eU (qp (xs:=cU) (n:=numAt aI Yh) (List.length_pos_iff.mpr h'.2)) λ abe aaL Yc=>?_;exact cf (xs:=[pick cU (numAt aI Yh)]) (au (cP (aV:=is cU) (a6:=is ((numAt aI Yh).fmod (cU.length:Int))) af (c6 af (ba (f:=.builtin "len") (YN:=[is cU]) aQ (au af aB) aR trivial (dM (by w_up))) (iW (by w_up))) (dD abe (by w_up) Yc) ty_list PySem.F.slot_list_getitem.lookup) aB) (by show 1<=sizeLine;w_up))
  (λ h=>by
   have h':¬(fc=[]/\cU≠[]):=λ z=>by simp [z.1,z.2] at h
   rw [<-yu,show df fc cU (numAt aI Yh)=[] from if_neg h'];exact cf aB (Nat.zero_le _))) abd aR λ qe f=>?_
 have PY:fG.length<=1:=by rw [<-yu];unfold df;split<;>simp
 have QU:(wordsOf jb d4).cs.length<=100:=by unfold wordsOf;split;exact bH;split<;>decide
 have nN:(fM ez b3).length<=100:=by unfold fM;rw [lm];w_up
 have Sl:kB.cs.length=6:=rfl;have W8:nY.cs.length=6:=rfl;refine yI f (D:=ZA) (YN:=b9.map is) (P:=is (Y7.mk (kB++d4++nY++wordsOf jb d4) (jS.mk b3) fc fG (says ([iT,iT]++fM ez b3)):Turn)) af (uY (ow (λ m=>nomatch m)) sK)
  (HZ (au (c6 (c6 (c6 (cD kB abl) af (jx (by w_up))) (cD nY abl) (jx (by rw [Tx.d9,gD];w_up))) af (jx (by rw [Tx.d9,Tx.d9,gD,gD];w_up)))
   (au (ba (f:=.type "tuple") (YN:=[is b3]) aQ (au af aB) aR trivial (qa (by w_up)))
   (au af (au af (au (ba (f:=.type "str") (YN:=[is ([iT,iT]++fM ez b3)]) aQ (au (c6 (cf (xs:=[iT,iT]) (au af (au af aB)) (by show 2<=sizeLine;w_up)) af (dm (by show 2+_<=_;w_up))) aB) aR trivial (nA aY (by rw [gD];show 2+_<=_;w_up))) aB)))))) (by rw [lm];w_up) rfl aR aR (λ ξ=>⟨_,rfl⟩) (λ ξ=>rfl) λ sI f=>?_
 refine aU f (P:=is (cU.filter λ c=>!decide (c∈fG))) (by
  have e4:(cU.filter λ c=>!decide (c∈fG))=(cU.filter λ c=>!decide (c∈fG)).map λ c=>c:=by rw [List.map_id']
  rw [e4];exact cK (ai:=cU) (abL:=is) (β:=λ c=>[("page",is c)]) (p:=λ c=>!decide (c∈fG)) (f:=λ c=>c) (Ok:=Plain) bV (bZ aY.handled af) (λ ξ ξ=>rfl) (by w_up) (.name _ _) (λ c ξ=>bB abd) (λ c ξ=>e8 (bg (aV:=is c) (a6:=is fG) af af (jJ aY bH) abl)) (λ c tR ξ=>af)) abd (λ d7 h1 h2=>du d7 h1 h2 abd) λ qf f=>?_
 refine aU f (P:=is (jb++fc++fG)) (c6 (c6 af af (dm (by w_up))) af (dm (by rw [gD];w_up))) abd aR λ wN f=>?_;refine Hg (ai:=fc++fG) (abL:=is) (β:=λ one=>[("one",is one)]) (p:=λ ξ=>true) (js:=λ ξ=>aX) (XU:=is) (p9:=λ ξ fi=>[("page",is fi)]) (q:=λ one fi=>!decide (fi=aF)&&(decide (cE oQ fi=one)&&true)) (R:=λ ξ fi=>is fi) (m:=100) (Ok:=Plain) (yd:=Plain) (P:=is (nextOf aX oQ (fc++fG))) f bV
  (bZ aY.handled (c6 af af (dm (by w_up)))) (λ ξ ξ=>rfl) (by rw [gD];w_up) (.name _ _) (λ c ξ=>bB abd) (λ ξ ξ=>fy) (λ a ξ=>bZ aY.handled af) (λ ξ ξ=>rfl) (.name _ _) (λ a ξ b ξ=>bB abd)
  (λ a ξ b ξ=>ay abl (ay abl (ay abl bO)))
  (λ one ξ fi WL=>e8 (fo (gm (bg (aV:=is fi) (a6:=is aF) af (cD aF abl) (iF aY bH) abl) λ ξ=>gm (bg (aV:=is (cE oQ fi)) (a6:=is one) (cP (aV:=gB (iB oQ)) (a6:=is fi) af af (wg (xq (hk fi WL))) tD PySem.F.slot_dict_getitem.lookup) af (iE aY bH) abl) λ ξ=>g9)))
  (λ ξ ξ ξ ξ ξ ξ=>af) abd (λ ξ ξ=>hp) (by rw [gD];w_up) abd (λ d7 h1 h2=>du d7 h1 h2 abd) (λ ξ ξ q=>yW q) λ CL f=>?_
 refine bf (hQ _ ?_);rw [zo] at f;exact f.ek (ay abl (ay abl (ay abl (ay abl (ay abl (ay abl (ay abl (ay abl bO))))))))
end dueTurn1_v
def HG {past kC gx:List Tx} {act:Bool}:oU A aa F aw az Q K ah a7 bJ past av cC kC gx aq ae aW D b7 act i:=s7 (U (U (U (U (U (U (U (U (U (U (U (U (U (U (U (U (U (U (U (U (U oU))))))))))))))))))))) dueTurn1_v.Zk (((((((((((((((((((((A,aa),F),aw),az),Q),K),ah),a7),bJ),past),av),cC),kC),gx),aq),ae),aW),D),b7),act),i)
def ux (abx:cy 1 A) (hp:ah.length<=100) (hc:∀c∈ah,c.cs.length<=1000) (hk:∀p∈ah,p∈aq.map (·.1)) (hg:av.length<=1000) (hn:0<ae.length) (jz:ae.length<=1000)
  (hb:∀i≤ah.length,(bF ah aq av ae i).given.length<=100/\(bF ah aq av ae i).hand.length<=1000/\(bF ah aq av ae i).past.length<=1000):
  fJ A (.ref 344) [is ah,gB (iB aq),is av,is ae] (is (fY ah aq av ae)):=by
 have hl:=br;refine ju (n:=0) (ρ:=[("pages",is ah),("above",gB (iB aq)),("good",is av),("numbers",is ae)]) (o:=Nm) abl rfl aaT ⟨343,Nl,_,_,rfl,by rfl,rfl,rfl⟩ abx (MC λ a b c d=>by rfl) ["pages","above","good","numbers"] rfl abd abd ?_;intro aw az aa S s' A' aY f;have gz:=f.sub;refine sG (xs:=[("hand",_),("past",_),("given",_)]) (YN:=[is ([]:List Tx),is ([]:List Tx),is [aF]]) aY.handled f
  (au (cf aB (Nat.zero_le _)) (au (cf aB (Nat.zero_le _)) (au (cf (xs:=[aF]) (au (cD aF abl) aB) (by rw [hl];decide)) aB))) rfl (by rw [hl];decide) abd (λ ξ=>rfl) abl (nu aa f.cx.names abd) λ D aj e9 pU f=>?_
 have h0:D∉aw:=λ m=>e9 (gz D m);refine lC (ai:=List.range ah.length) (abL:=λ i=>is ((0:Int)+(i:Int)*1)) (Ok:=Plain) (β:=λ i=>[("step",is ((0:Int)+(i:Int)*1))])
  (f9:=λ i=>[("turns",lit (.ref D)),("hand",is (bF ah aq av ae i).hand),("past",is (bF ah aq av ae i).past),("given",is (bF ah aq av ae i).given),("numbers",is ae),("good",is av),("above",gB (iB aq)),("pages",is ah)])
  (ZH:=λ i=>(dc D ((bF ah aq av ae i).turns.map is)).and Y8)
  (lT:=[("turns",lit (.ref D))]) (aap:=(dc D ((bF ah aq av ae ah.length).turns.map is)).and Y8)
  f (ay abl (ay abl (ay abl (ay abl (ay abl (ay abl (ay abl (ay abl bO))))))))
  (mu (a:=0) (b:=ah.length) (c:=1) aY.handled (ba (f:=.type "range") (YN:=[is (ah.length:Int)]) aQ (au (ba (f:=.builtin "len") (YN:=[is ah]) aQ (au af aB) aR trivial (dM (by w_up))) aB) aR trivial oq) (oN (by w_up)) (nX _))
  (.name _ _) (λ ξ=>rfl) (λ b ξ=>bB abd) (λ ξ ξ h=>h) (λ ξ h=>h) ?_ (λ S' s' f=>by rw [List.length_range] at f;exact f.ek (ay abl bO)) λ aA f=>?_
 ·intro i hi K S' aA hK f;refine Yj λ Q hQ=>?_;simp only [List.getElem_range] at f;have nO:i<ah.length:=by simpa using hi
  refine eU (hb i (Nat.le_of_lt nO)) λ abo YE bp=>?_;refine eU (hb (i+1) nO) λ MD Xu Xv=>?_;have sK:D∉K.fp:=λ m=>hK D m di;have fh:=fF ah aq av ae i;have e0:(0:Int)+(i:Int)*1=(i:Int):=by w_up
  rw [e0] at f;have xC:(bF ah aq av ae i).turns.length<=100:=by rw [oO];w_up
  rw [fh] at MD hQ;exact HG aY hp hc hk hg hn jz nO abo YE bp MD xC rfl rfl rfl rfl rfl sK f λ s' f=>hQ .next s' f
 ·have f:=f.vP (z:="turns") abl h0 (λ m=>nomatch m);have xC:(bF ah aq av ae ah.length).turns.length<=100:=by rw [oO];w_up
  exact dO f (P:=is (fY ah aq av ae)) (c6 (aV:=is (bF ah aq av ae ah.length).turns) (Ev.imp (P:=cH ((bF ah aq av ae ah.length).turns.map is)) af λ ξ ξ=>is_list.mpr)
   (cf (xs:=[cv]) (au (HZ (au (cD ⟨[]⟩ abl) (au (Ev.imp (P:=f5 []) (nF aB (Nat.zero_le _)) λ ξ ξ q=>(is_tup (t:=jS.mk ([]:List Tx))).mpr q) (au (cf aB (Nat.zero_le _)) (au (cf aB (Nat.zero_le _)) (au (cD (says [false]) abl) aB)))))) aB) (by show 1<=sizeLine;w_up)) (dm (by show _+1<=_;w_up))) λ v aH f' p=>f'.gc (F:=[]) p
noncomputable def E8:List Int:=[384,330,356,361,61,150]
def qz (n:Int):X7 (List Tx) (List Tx) Bool:=X7.mk (b6 n) (gQ (b6 n)) (c8 n)
def tY (ae:List Int):List ZW:=ae.map λ n=>(gQ (b6 n),c8 n)
def AW {kx vx:Expr} {gens:List Comprehension} {t:Str} {line:Nat} {b:Bool} (aa:Env) (hk:aa.scope.kind= .function) (hn:aa.scope.names=sc)
  (hb:(sc.lookup t==some .local&&tp.line==be.line&&!(ag.names.any λ (n,k)=>n==t&&(k== .local||k== .cell)))=b):swapsWith (.DictComp kx vx gens ag be) (some (.Name t tp)) line aa=pure b:=by
 show pure (aa.blockKind== .function&&aa.kindOf t==some .local&&tp.line==be.line&&!(ag.names.any λ (n,k)=>n==t&&(k== .local||k== .cell)))=_;have h1:(aa.blockKind==ScopeKind.function)=true:=by unfold Env.blockKind;rw [hk];rfl
 rw [h1,Env.kindOf,hn,Bool.true_and,hb]
def K5 {np:Pos} {aE:List Expr} (f:YQ sc ak F aw az aa ρ (K.and (bK [])) S s) (hd:∀b∈K.fp,b∉dh []) (fv:aa.frame=some aa.locals) (hk:vh (.ref aa9))
  (op:∀qj,iQ (aa::[]) qj->wu A (.ref aa9) YN (bK qj) (bK qj) P) (hg:Ev A sc ρ (.Name fn np) (lit (.ref aa9))) (ha:nE A sc ρ aE YN) (uV:eT aE) (hx:cw ak sc z=true)
  (hs:∀aa:Env,aa.scope.kind= .function->aa.scope.names=sc->swapsWith (.Call (.Name fn np) aE [] be) (some (.Name z YA)) ar.line aa=pure false)
  (k:∀s',YQ sc ak F aw az aa ((z,P)::ρ) (K.and (bK [])) S s'->wpAny (model XX w) A (execs aD aa) Q E s'):
  wpAny (model XX w) A (execs (.Assign [.Name z YA] (.Call (.Name fn np) aE [] be) ar::aD) aa) Q E s:=by
 refine YF (wpAny_Assign_Name (hs:=hs aa f.cx.kind f.cx.names) ?_);show wpAny _ A (do callWith _ (<-eval (.Name fn _) aa) [] (backTo _ (starEach aE aa)) []) _ _ s;refine Z4 (hg.use f.cx λ v aj k₁ c₁ aZ=>?_);rw [show v= .ref aa9 from aZ];refine eg (uV aa be) (Zh (ha S aa be aj c₁) (λ vs aA q=>⟨hk.ok ((c₁.mono (kle q.1)).top.mono ao),?_⟩) eY);have bh:=f.keep (aL k₁ q.1);exact bh.Au (S':=S) hd ⟨λ e m=>absurd m (by simp),λ p m=>absurd m (by simp)⟩ fv (λ b m=>m) (λ b m=>absurd m (by simp)) bh.Zt.loc op q.2 λ v aH f pv=>f.store hx pv k
def C' (aW:List Turn):((((List.range aW.length).filter λ i=>!decide ((aW.getD i cv).d=[])).map λ (i:Nat)=>((0:Int)+(i:Int)*1))++[(aW.length:Int)])[(0:Int).toNat]? =some ((fH aW:Nat):Int):=by
 have e1:(λ i=>!decide ((aW.getD i cv).d=[]))=λ i=>decide ((aW.getD i cv).d≠[]):=funext λ i=>by simp
 rw [e1];unfold fH;have h:=List.head?_filter (p:=λ i=>decide ((aW.getD i cv).d≠[])) (l:=List.range aW.length);rw [<-h];cases (List.range aW.length).filter λ i=>decide ((aW.getD i cv).d≠[]) with
 |nil=>rfl
 |cons a r=>
  show some ((0:Int)+(a:Int)*1)=some ((a:Nat):Int);congr 1;w_up
noncomputable def qA (xs:List Int):YJ:=⟨λ h v=>∃(a:Addr) (vs:Array Value),v= .ref a/\h.IsList a vs/\AllP h (xs.map is) vs.toList,λ k ⟨a,vs,e,⟨o,x,y⟩,z⟩=>bW a vs e ⟨o,k _ _ x,y⟩ (z.mono k)⟩
def E9 {xs:List Int}:l8 (qA xs) "list":=λ s v p=>by refine bU p λ a vs cX qm ξ=>?_;subst cX;refine cZ qm λ o x y ξ=>?_;exact cV o x y
def Fa {xs:List Int} {b:Nat} (hz:xs.length<=sizeLine):fm A getItem (qA xs) (ef none (some (b:Int)) none) (is (xs.take b)):=λ S s u v ξ f p q=>by refine bU p λ a vs c7 xd pa=>?_;subst c7;obtain ⟨o',pF,n8,n',lS⟩:=xd;refine kR q λ b' l' u' ip d6 e1 e2 e3 hs=>?_;subst d6;have el:=pa.length;rw [Array.length_toList,lm] at el;refine cZ hs λ o ho hc hd=>?_;refine wpAny_getItem_list_slice ⟨o',ao _ _ pF,n8,n',lS⟩ ⟨o,ao _ _ ho,hc,hd⟩ h7 h7 h7 (by rw [e3];simp) ?_ (by rw [el];exact hz);refine ⟨⟨_,_,rfl,λ ξ ξ e=>cN _ e⟩,is_list.mpr ⟨_,_,0,rfl,eZ f rfl,?_⟩⟩;rw [e1,e2,e3,slicePick_upto',List.map_take];exact (pa.take b).mono (aJ λ ξ ξ e=>cN _ e)
def Fb (x:AllP h (List.replicate n anyI) vs):∃ns:List Int,ns.length=n/\AllP h (ns.map is) vs:=by
 induction n generalizing vs with
 |zero=>cases vs with
  |nil=>exact cV [] rfl trivial
  |cons _ _=>exact x.elim
 |succ n ih=>cases vs with
  |nil=>exact x.elim
  |cons v vs=>exact aM x.1 λ i p=>aK (ih x.2) λ ns a b=>⟨i::ns,by rw [List.length_cons,a],p,b⟩
abbrev WM:ly:=(gE (fk 35)).names
abbrev WN:List Str:=ownOf (gE (fk 35))
def oV (A:Around) (aa:Env) (aw:List Addr) (az:Shared) (ae AX:List Int) (L:List ZW) (ah seen:List Tx) (aW:List Turn) (R:Value->Shared->Prop):Prop:=∀{S:List Addr} {s:Shared} (aY:cy 13 A) (i0:A.frames=some (aa::[])) (fv:aa.frame=some aa.locals) (K6:ae.length=6) (uL:tY ae=L) (sZ:bx (aP L)=ah) (Ug:fY ah (a9 (aP L)) (bk L) ae=aW) (QA:((((List.range aW.length).filter λ i=>!decide ((aW.getD i cv).d=[])).map λ (i:Nat)=>((0:Int)+(i:Int)*1))++[(aW.length:Int)])=AX) (Mz:seenOf aW=seen) (f:YQ WM WN [317] aw az aa [("numbers",is ae)] dW S s) (hQ:∀v s',abO dW.fp az s'/\dW.p (hide aw s'.heap) s'.heap/\(is true).p (hide aw s'.heap) v->R v s'),wpAny (model XX w) A (execs ((m9 (fk 35)).drop 1) aa) (λ fl s=>R (tq fl) s) dj s
namespace law_main_v
def aau:=ev (U (U (U (U (U (U (U (U (U (U oV))))))))))
def abN:=aau.1.1.1.1.1.1.1.1.1.1
def d7:=aau.1.1.1.1.1.1.1.1.1.2
def lE:=aau.1.1.1.1.1.1.1.1.2
def lF:=aau.1.1.1.1.1.1.1.2
def aI:=aau.1.1.1.1.1.1.2
def AY:=aau.1.1.1.1.1.2
def aaG:=aau.1.1.1.1.2
def aX:=aau.1.1.1.2
def de:=aau.1.1.2
def b9:=aau.1.2
def abv:=aau.2
def Zk:oV abN d7 lE lF aI AY aaG aX de b9 abv:=by
 intro S s aY i0 fv K6 uL sZ Ug QA Mz f hQ;have hl:=br;have H:CX aaG:=by rw [<-uL];exact ⟨λ l hl=>by refine aK (abQ hl) λ n ξ gG=>?_;subst gG;exact zz n,by unfold tY;rw [lm,K6];w_up⟩
 have JY:aaG.length=6:=by rw [<-uL];unfold tY;rw [lm,K6]
 refine aU f (P:=is (aI.map qz)) (by
  have e:aI.map qz=(aI.filter λ ξ=>true).map qz:=by rw [List.filter_eq_self.mpr λ ξ ξ=>rfl]
  rw [e];exact cK (ai:=aI) (abL:=is) (β:=λ c=>[("number",is c)]) (p:=λ ξ=>true) (f:=qz) (Ok:=Plain) bV (bZ aY.handled af) (λ ξ ξ=>rfl) (by w_up) (.name _ _) (λ c ξ=>bB abd) (λ ξ ξ=>fy) (λ c ξ ξ=>ba (f:=.ref 308) (YN:=[is c]) cI (au af aB) aR ⟨_,_,by rfl,rfl⟩ (AH (aY.less (by w_up))))) abd (λ d7 h1 h2=>du d7 h1 h2 abd) λ bS f=>?_
 have c4:(aI.map qz).length<=sizeLine:=by rw [lm];w_up
 have s4:(aI.map qz).map (λ t=>t.b)=aP aaG:=by rw [<-uL];unfold tY aP;rw [List.map_map,List.map_map];rfl
 have Wr:(aP aaG).length=6:=by rw [lm,JY]
 have ME:∀r∈aP aaG,r.length<=100/\∀c∈r,c.cs.length<=100:=λ r hr=>by refine gF (iU _ (H.rows r hr)) λ m1 m2 m3 m4 Yv YO=>?_;exact ⟨by w_up,λ c hc=>by have:=YO c hc;w_up⟩
 refine aU f (P:=gB (iB (a9 (aP aaG)))) (by
  refine ba (f:=.ref 315) (YN:=[is (aP aaG)]) cI (au ?_ aB) aR ⟨_,_,by rfl,rfl⟩ (ym (aY.less (by w_up)) (by w_up) ME);have e:aP aaG=((aI.map qz).filter λ ξ=>true).map λ t=>t.b:=by rw [List.filter_eq_self.mpr λ ξ ξ=>rfl,s4]
  rw [e];exact cK (ai:=aI.map qz) (abL:=is) (β:=λ t=>[("allowed",is t.c),("names",is t.b),("pieces",is t.a)]) (p:=λ ξ=>true) (f:=λ t=>t.b) (Ok:=Plain) bV (bZ aY.handled af) (λ ξ ξ=>rfl) c4 (.tup _ _ _) (λ c ξ=>oT aY.handled abd abd abd) (λ ξ ξ=>fy) (λ c ξ ξ=>af)) abd aR λ bY f=>?_
 refine aM H.Qs λ t g=>?_;rw [sZ] at g;have Mq:=g.len;refine aU f (P:=is aX) (ba (f:=.type "list") (YN:=[gB (iB (a9 (aP aaG)))]) aQ (au af aB) aR trivial (yx aY.handled (by rw [<-sZ];unfold iB bx;rw [List.map_map];rfl) (by w_up))) abd aR λ dK f=>?_;have LB:(a9 (aP aaG)).length=aX.length:=by rw [<-sZ];unfold bx;rw [lm]
 have QB:aX.map (cE (a9 (aP aaG)))=(a9 (aP aaG)).map (·.2):=by rw [<-sZ];exact (KV H.rows).symm
 refine f6 f (b:=!decide (aX.map (cE (a9 (aP aaG)))=(a9 (aP aaG)).map (·.2))) (bg (aV:=is (aX.map (cE (a9 (aP aaG))))) (a6:=is ((a9 (aP aaG)).map (·.2))) (by
   have e:aX.map (cE (a9 (aP aaG)))=(aX.filter λ ξ=>true).map (cE (a9 (aP aaG))):=by rw [List.filter_eq_self.mpr λ ξ ξ=>rfl]
   rw [e];exact cK (ai:=aX) (abL:=is) (β:=λ c=>[("page",is c)]) (p:=λ ξ=>true) (f:=cE (a9 (aP aaG))) (Ok:=Plain) bV (bZ aY.handled af) (λ ξ ξ=>rfl) (by w_up) (.name _ _) (λ c ξ=>bB abd) (λ ξ ξ=>fy) (λ c hc ξ=>ba (f:=.ref 291) (YN:=[is c]) cI (au af aB) aR ⟨_,_,by rfl,rfl⟩ (um (g.dir c hc) (aY.less (by w_up)))))
  (Ev.imp (P:=cH ((iB (a9 (aP aaG))).map (·.2))) (ba (f:=.type "list") (YN:=[E3 (iB (a9 (aP aaG)))]) aQ (au (C3 af (λ ξ=>⟨_,rfl⟩)) aB) aR trivial (yy aY.handled (by unfold iB;rw [lm];w_up))) λ ξ ξ q=>is_list.mpr (by
   have e:(iB (a9 (aP aaG))).map (·.2)=((a9 (aP aaG)).map (·.2)).map is:=by unfold iB;rw [List.map_map,List.map_map];rfl
   rw [<-e];exact q)) (iF aY bH) abl) (λ hb=>absurd hb (by rw [QB];simp)) λ ξ dT f=>bf ?_
 have QC:((aI.map qz).filter λ ξ=>true).map (λ t=>((Zl t.b,t.c):Tx×Bool))=rowsOf aaG:=by rw [List.filter_eq_self.mpr λ ξ ξ=>rfl,<-uL];unfold tY rowsOf;rw [List.map_map,List.map_map];rfl
 have Uh:∀t∈aI.map qz,∃n,t=qz n:=λ t ht=>by refine aK (abQ ht) λ n ξ gM=>?_;subst gM;exact ⟨n,rfl⟩
 refine mW (ai:=aI.map qz) (abL:=is) (β:=λ t=>[("allowed",is t.c),("names",is t.b),("pieces",is t.a)]) (p:=λ ξ=>true) (g:=λ t=>((Zl t.b,t.c):Tx×Bool)) (Ok:=Plain) f bV (bZ aY.handled af) (λ ξ ξ=>rfl) c4 (.tup _ _ _) (λ c ξ=>oT aY.handled abd abd abd) (λ ξ ξ=>fy) (λ c hc ξ=>by refine aM (Uh c hc) λ n fN=>?_;subst fN;refine cO (C6 n) λ abe aaL=>?_;exact r4 (au (ba (f:=.ref 298) (YN:=[is (cj aF (b6 n))]) cI (au (yz (aa9:=277) (xs:=b6 n) (aV:=is aF) cI (cD aF abl) af (by w_up) ⟨_,_,by rfl,rfl⟩ (xP abe aaL (aY.less (by w_up))) (λ ξ=>rfl)) aB) aR ⟨_,_,by rfl,rfl⟩ (xO (xN n) (aY.less (by w_up)))) (au af aB))) abd (λ d7 h1 h2=>du d7 h1 h2 abd) λ mS f=>?_
 rw [QC] at f;have W9:(rowsOf aaG).length=6:=by unfold rowsOf;rw [lm,JY]
 have WO:((rowsOf aaG).filter λ ξ=>true).map (λ r=>r.1)=(aP aaG).map Zl:=by rw [List.filter_eq_self.mpr λ ξ ξ=>rfl];unfold rowsOf;rw [List.map_map,List.map_map];rfl
 have WQ:((aI.map qz).filter λ ξ=>true).map (λ t=>Zl t.b)=(aP aaG).map Zl:=by rw [List.filter_eq_self.mpr λ ξ ξ=>rfl,<-s4];simp only [List.map_map];rfl
 refine f6 f (b:=!decide ((aP aaG).map Zl=(aP aaG).map Zl)) (bg (aV:=is ((aP aaG).map Zl)) (a6:=is ((aP aaG).map Zl)) (by rw [<-WO];exact cK (ai:=rowsOf aaG) (abL:=is) (β:=λ c=>[("allowed",is c.2),("page",is c.1)]) (p:=λ ξ=>true) (f:=λ r=>r.1) (Ok:=Plain) bV (bZ aY.handled af) (λ ξ ξ=>rfl) (by w_up) (.tup _ _ _) (λ c ξ=>xA aY.handled abd abd) (λ ξ ξ=>fy) (λ c hc ξ=>af))
  (by
   rw [<-WQ];refine cK (ai:=aI.map qz) (abL:=is) (β:=λ t=>[("allowed",is t.c),("names",is t.b),("pieces",is t.a)]) (p:=λ ξ=>true) (f:=λ t=>Zl t.b) (Ok:=Plain) bV (bZ aY.handled af) (λ ξ ξ=>rfl) c4 (.tup _ _ _) (λ c ξ=>oT aY.handled abd abd abd) (λ ξ ξ=>fy) (λ c hc ξ=>?_);have hb:=ME c.b (by rw [<-s4];exact List.mem_map.mpr ⟨c,hc,rfl⟩);have e:Zl c.b=Zl (c.b.take c.b.length):=by rw [List.take_length]
   rw [e];exact EH hb.1 hb.2 (by rw [List.take_length];exact af) abl abl aR (λ ξ=>rfl) (λ ξ=>⟨_,rfl⟩)) (iF aY bH) abl) (λ hb=>absurd hb (by simp)) λ ξ gT f=>bf ?_
 have f:=f.fX (aa_:=(bK []).and dW) ⟨(λ ξ m=>(nomatch m)),f.jp⟩ λ b m=>m;have N6:∀r∈rowsOf aaG,r.1.cs.length<=1000/\(dX r.1).cs.length<=2000:=λ r hr=>by refine aK (abQ hr) λ l hl gN=>?_;subst gN;have h1:=(iU _ (H.nm l hl)).2.2.1;have h2:=nv (Zl l.1) ⟨[]⟩;have h3:(⟨[]⟩:Tx).cs.length=0:=rfl;refine ⟨by show (Zl l.1).cs.length<=_;w_up,?_⟩;show (fL (Zl l.1) ⟨[]⟩).cs.length<=_;w_up
 refine C7 (aa9:=327) (jT:=dW) (gS:=dW) (P:=i8 (dz (rowsOf aaG))) f (λ b m q=>nomatch q) (λ b m=>m) ⟨_,_,by rfl,rfl⟩ (qu (aC:=rowsOf aaG) (aY.less (by w_up)) (by w_up) N6) cI (au af aB) aR abd aR λ j3 f=>?_;have uV:∀p∈aX,∃ns,qw (aP aaG) ns/\p=Zl ns:=λ p hp=>(n0 H.rows).mp (by rw [sZ];exact hp);have WR:∀p∈aX,((aI.map qz).filter λ t=>decide ((lR (zx p)).take t.b.length=t.b)).map (λ t=>(((t.b.length:Nat):Int),t.c))=reachOf aaG p:=λ p hp=>by
  refine aK (uV p hp) λ ns hn gj=>?_;subst gj;unfold reachOf;rw [mO hn.1,<-uL];unfold tY;rw [List.filter_map,List.map_map,List.filter_map,List.map_map];have e:aI.filter ((λ t=>decide ((lR ns).take t.b.length=t.b))∘qz)=aI.filter ((λ l:ZW=>l.1.isPrefixOf ns)∘λ n=>(gQ (b6 n),c8 n)):=
   List.filter_congr λ n ξ=>Qn ns hn.1 _ (zz n)
  rw [e];rfl
 have MF:∀p,(reachOf aaG p).length<=6:=λ p=>by unfold reachOf;rw [lm,<-JY];exact List.length_filter_le _ _
 refine aU f (P:=gB (lJ (λ a=>a) (λ p=>is (reachOf aaG p)) aX)) (AS (ai:=aX) (abL:=is) (β:=λ c=>[("page",is c)]) (kf:=λ a=>a) (Yt:=λ p=>is (reachOf aaG p)) (Ok:=Plain) bV (bZ aY.handled af) (λ ξ ξ=>rfl) (by w_up) (.name _ _) (λ c ξ=>bB abd) (λ c ξ=>af) (λ c hc=>by
  rw [<-WR c hc];refine aK (uV c hc) λ ns hn jy=>?_;subst jy;rw [mO hn.1];refine gF (iU _ hn.1) λ m1 m2 m3 m4 Yv YO=>?_;have hj:=u1 ns 2 YO;have Sm:(lR ns).length<=3:=by
   unfold lR;split
   ·simp
   ·exact Yv
  refine cK (ai:=aI.map qz) (abL:=is) (β:=λ t=>[("allowed",is t.c),("names",is t.b),("pieces",is t.a)]) (p:=λ t=>decide ((lR ns).take t.b.length=t.b)) (f:=λ t=>(((t.b.length:Nat):Int),t.c)) (Ok:=Plain) bV (bZ aY.handled af) (λ ξ ξ=>rfl) c4 (.tup _ _ _) (λ c ξ=>oT aY.handled abd abd abd) (λ t ht=>?_) (λ t ht ξ=>?_)
  ·have hb:=ME t.b (by rw [<-s4];exact List.mem_map.mpr ⟨t,ht,rfl⟩);exact e8 (bg (aV:=is ((lR ns).take t.b.length)) (a6:=is t.b) (cP (aV:=is (lR ns)) (a6:=ef none (some ((t.b.length:Nat):Int)) none) (g4 (gZ:=is (abj ns)) (YN:=[is aF]) (f:=.builtin "str.split") (cP (aV:=is (Zl ns)) (a6:=ef (some ((1:Nat):Int)) none none) af (fq (eN bX) cR cR) (ue (x:=Zl ns) (k:=1) (by w_up)) rk PySem.F.slot_str_getitem.lookup) (my PySem.F.slot_str_split PySem.F.type_str_split) (au (cD aF abl) aB) aR trivial (tE (KT ns hn.1) bH (by w_up) (by w_up)) (λ ξ=>⟨_,rfl⟩))
    (fq cR (eN (ba (f:=.builtin "len") (YN:=[is t.b]) aQ (au af aB) aR trivial (dM (by w_up)))) cR) (pE (by w_up)) ty_list PySem.F.slot_list_getitem.lookup) af (iE aY bH) abl)
  ·have hb:=ME t.b (by rw [<-s4];exact List.mem_map.mpr ⟨t,ht,rfl⟩);exact r4 (au (ba (f:=.builtin "len") (YN:=[is t.b]) aQ (au af aB) aR trivial (dM (by w_up))) (au af aB)))) abd (λ d7 h1 h2=>AW d7 h1 h2 abd) λ nS f=>?_
 have qx:aX.filter (rV aaG)=bk aaG:=by rw [<-sZ];rfl
 refine aU f (P:=is (bk aaG)) (by
  have e:bk aaG=(aX.filter (rV aaG)).map λ c=>c:=by rw [List.map_id',qx]
  rw [e];exact cK (ai:=aX) (abL:=is) (β:=λ c=>[("page",is c)]) (p:=rV aaG) (f:=λ c=>c) (Ok:=Plain) bV (bZ aY.handled af) (λ ξ ξ=>rfl) (by w_up) (.name _ _) (λ c ξ=>bB abd) (λ c hc=>e8 (cM (P:=is (rV aaG c)) (cP (aV:=is (fZ (-1,true) (reachOf aaG c))) (a6:=is (1:Int)) (ba (f:=.builtin "max") (YN:=[is ((-1,true)::reachOf aaG c)]) aQ (au (c6 (aV:=is [((-1:Int),true)]) (a6:=is (reachOf aaG c)) (cf (xs:=[((-1:Int),true)]) (au (r4 (au (qC bX) (au u9 aB))) aB) (by show 1<=sizeLine;w_up)) (cP (aV:=gB (lJ (λ a=>a) (λ p=>is (reachOf aaG p)) aX)) (a6:=is c) af af (wg (C9 (Yt:=λ p=>is (reachOf aaG p)) g.nd hc)) tD PySem.F.slot_dict_getitem.lookup) (dm (by have:=MF c;show 1+_<=_;w_up))) aB) aR trivial (E7 (n:=0) (aY.less (by w_up)))) bX AU K4 PySem.F.slot_tuple_getitem.lookup) gk aR)) (λ c ξ ξ=>af)) abd (λ d7 h1 h2=>du d7 h1 h2 abd) λ qe f=>?_
 have f:=f.fX (aa_:=dW.and (bK [])) ⟨f.jp.2,f.jp.1⟩ λ b m=>m;have Eo:∀p∈aX,(ie (cj p [⟨[]⟩]) (rowsOf aaG)).2=decide (p∈bk aaG):=λ p hp=>by refine aK (uV p hp) λ ns hn kc=>?_;subst kc;have h1:(ie (cj (Zl ns) [⟨[]⟩]) (rowsOf aaG)).2=true<->Spec aaG ns:=CU hn.1 H.nm;rw [Bool.eq_iff_iff,h1,decide_eq_true_eq,n4 H hn]
 refine K5 (aa9:=339) (P:=is (fY aX (a9 (aP aaG)) (bk aaG) aI)) f (λ b m q=>nomatch q) fv ⟨_,_,by rfl,rfl⟩ (λ qj lD=>sX g (aY.less (by w_up)) i0 lD Eo (by w_up) (by w_up) (by w_up)) cI (au af (au af (au af aB))) aR abd aR λ sI f=>?_;have hb:∀i≤aX.length,(bF aX (a9 (aP aaG)) (bk aaG) aI i).given.length<=100/\(bF aX (a9 (aP aaG)) (bk aaG) aI i).hand.length<=1000/\(bF aX (a9 (aP aaG)) (bk aaG) aI i).past.length<=1000:=λ i ξ=>by refine aM (CY (ae:=aI) H i) λ σ v=>?_;have v:Inv (bx (aP aaG)) (a9 (aP aaG)) σ (bF (bx (aP aaG)) (a9 (aP aaG)) (bk aaG) aI i).past (bF (bx (aP aaG)) (a9 (aP aaG)) (bk aaG) aI i).hand (bF (bx (aP aaG)) (a9 (aP aaG)) (bk aaG) aI i).given:=v;rw [sZ] at v;have:=qs v;w_up
 have Xw:(bk aaG).length<=30:=by rw [<-qx];exact Nat.le_trans (List.length_filter_le _ _) Mq
 have qS:∀c∈aX,c.cs.length<=1000:=λ c hc=>by have:=g.Kn c hc;w_up
 refine f6 f (b:=!decide (fY aX (a9 (aP aaG)) (bk aaG) aI=fY aX (a9 (aP aaG)) (bk aaG) aI)) (bg (aV:=is (fY aX (a9 (aP aaG)) (bk aaG) aI)) (a6:=is (fY aX (a9 (aP aaG)) (bk aaG) aI)) af (ba (f:=.ref 344) (YN:=[is aX,gB (iB (a9 (aP aaG))),is (bk aaG),is aI]) cI (au af (au af (au af (au af aB)))) aR ⟨_,_,by rfl,rfl⟩ (ux (aY.less (by w_up)) (by w_up) qS g.keys (by w_up) (by w_up) (by w_up) hb)) (iF aY bH) abl) (λ hb=>absurd hb (by simp)) λ ξ qf f=>bf ?_;have Gp:fY aX (a9 (aP aaG)) (bk aaG) aI=dP aaG aI:=by rw [<-sZ]
 have xC:(fY aX (a9 (aP aaG)) (bk aaG) aI).length<=31:=by show ((bF _ _ _ _ _).turns++[cv]).length<=_;rw [gD,j6];show aX.length+1<=31;w_up
 have QD:∀t∈fY aX (a9 (aP aaG)) (bk aaG) aI,t.c.length<=30:=λ t ht=>by
  have a8:∀k,k≤aX.length->∀t∈(bF aX (a9 (aP aaG)) (bk aaG) aI k).turns,t.c.length<=30:=by
   intro k;induction k with
   |zero=>intro _ t m;cases m
   |succ k ih=>
    intro hk t m;rw [fF] at m;rcases bR m with m|m
    ·exact ih (by w_up) t m
    ·rw [bj m];refine aM (CY (ae:=aI) H k) λ σ v=>?_;have v:Inv (bx (aP aaG)) (a9 (aP aaG)) σ (bF (bx (aP aaG)) (a9 (aP aaG)) (bk aaG) aI k).past (bF (bx (aP aaG)) (a9 (aP aaG)) (bk aaG) aI k).hand (bF (bx (aP aaG)) (a9 (aP aaG)) (bk aaG) aI k).given:=v;rw [sZ] at v;have h1:=qs v;have h2:=List.length_filter_le (λ p=>decide (p∈bk aaG)) (bF aX (a9 (aP aaG)) (bk aaG) aI k).given;show (cu _ _).length<=30;unfold cu;w_up
  rcases bR ht with m|m
  ·exact a8 _ (Nat.le_refl _) t m
  ·rw [bj m];exact Nat.zero_le _
 rw [Ug] at f xC QD Gp;have hgate:((((List.range b9.length).filter λ i=>!decide ((b9.getD i cv).d=[])).map λ (i:Nat)=>((0:Int)+(i:Int)*1))++[(b9.length:Int)])[(0:Int).toNat]? =some ((fH b9:Nat):Int):=C' b9;rw [QA] at hgate;refine aU f (P:=is AY) (by
  rw [<-QA];refine c6 (cK (ai:=List.range b9.length) (abL:=λ i=>is ((0:Int)+(i:Int)*1)) (β:=λ i=>[("step",is ((0:Int)+(i:Int)*1))]) (p:=λ i=>!decide ((b9.getD i cv).d=[])) (f:=λ i=>((0:Int)+(i:Int)*1)) (Ok:=Plain) bV
   (mu (a:=0) (b:=b9.length) (c:=1) aY.handled (ba (f:=.type "range") (YN:=[is (b9.length:Int)]) aQ (au (ba (f:=.builtin "len") (YN:=[is b9]) aQ (au af aB) aR trivial (dM (by w_up))) aB) aR trivial oq) (oN (by w_up)) (nX _)) (λ ξ ξ=>rfl) (by rw [List.length_range];w_up) (.name _ _) (λ c ξ=>bB abd) (λ i hi=>?_) (λ c ξ ξ=>af))
   (cf (xs:=[(b9.length:Int)]) (au (ba (f:=.builtin "len") (YN:=[is b9]) aQ (au af aB) aR trivial (dM (by w_up))) aB) (by show 1<=sizeLine;w_up)) (dm (by have:=List.length_filter_le (λ i=>!decide ((b9.getD i cv).d=[])) (List.range b9.length);rw [List.length_range] at this;rw [lm];show _+1<=_;w_up))
  have nO:i<b9.length:=List.mem_range.mp hi;have e0:(0:Int)+(i:Int)*1=(i:Int):=by w_up
  rw [e0];exact e8 (bg (aV:=is (b9.getD i cv).d) (a6:=is ([]:List Tx)) (cP (aV:=is (b9.getD i cv)) (a6:=is (3:Int)) (cP (aV:=is b9) (a6:=is (i:Int)) af af (dD (by w_up) (by w_up) (by rw [Int.toNat_natCast,List.getD_eq_getElem?_getD,List.getElem?_eq_getElem nO];rfl)) ty_list PySem.F.slot_list_getitem.lookup) bX E5 C8 PySem.F.slot_tuple_getitem.lookup) (cf aB (Nat.zero_le _)) (iF aY bH) abl)) abd aR λ wN f=>?_
 have QE:ib (b9.take (fH b9)) (λ ξ=>true) (λ t=>t.c) (λ ξ ξ=>true) (λ ξ p=>p)=seenOf b9:=by unfold ib seenOf;rw [List.filter_eq_self.mpr λ ξ ξ=>rfl];refine congrArg (λ f=>List.flatMap f (b9.take (fH b9))) (funext λ t=>?_);rw [List.map_id',List.filter_eq_self.mpr λ ξ ξ=>rfl]
 refine aU f (P:=is (seenOf b9)) (Ev.imp (wJ (ai:=b9.take (fH b9)) (abL:=is) (β:=λ t=>[("turn",is t)]) (p:=λ ξ=>true) (js:=λ t=>t.c) (XU:=is) (p9:=λ ξ p=>[("page",is p)]) (q:=λ ξ ξ=>true) (R:=λ ξ p=>is p) (m:=100) (Ok:=Plain) (yd:=Plain) bV
   (bZ aY.handled (cP (aV:=is b9) (a6:=ef none (some ((fH b9:Nat):Int)) none) af (fq cR (eN (cP (aV:=is AY) (a6:=is (0:Int)) af bX (dD (by w_up) (by w_up) hgate) ty_list PySem.F.slot_list_getitem.lookup)) cR) (pE (by w_up)) ty_list PySem.F.slot_list_getitem.lookup)) (λ ξ ξ=>rfl) (by rw [List.length_take];w_up) (.name _ _) (λ c ξ=>bB abd) (λ ξ ξ=>fy)
   (λ t ξ=>bZ aY.handled (cP (aV:=is t) (a6:=is (2:Int)) af bX E6 C8 PySem.F.slot_tuple_getitem.lookup)) (λ ξ ξ=>rfl) (.name _ _) (λ t ξ p ξ=>bB abd)
   (λ t ξ p ξ=>ay abl bO) (λ ξ ξ ξ ξ=>fy) (λ ξ ξ ξ ξ ξ ξ=>af) abd (λ t ht=>Nat.le_trans (QD t (List.mem_of_mem_take ht)) (by w_up)) (by rw [List.length_take];w_up)) λ ξ ξ q=>by rw [<-QE];exact yW q) abd (λ d7 h1 h2=>du d7 h1 h2 abd) λ CL f=>?_
 have Ui:seenOf b9=jc aaG aI:=by rw [Gp]
 have nN:(seenOf b9).length<=1000:=by
  unfold seenOf;have a8:∀M:List Turn,(∀t∈M,t.c.length<=30)->(M.flatMap λ t=>t.c).length<=M.length*30:=by
   intro M;induction M with
   |nil=>intro _;exact Nat.le_refl _
   |cons t M ih=>
    intro h;have h1:=h t di;have h2:=ih λ q hq=>h q (Ym _ hq);rw [List.flatMap_cons,gD,List.length_cons];w_up
  have:=a8 (b9.take (fH b9)) λ t ht=>QD t (List.mem_of_mem_take ht);rw [List.length_take] at this;w_up
 have AZ:=free_eq (ae:=aI) H;have Uj:∀p∈aX,(ie (cj p [⟨[]⟩]) (rowsOf (gR aaG (seenOf b9)))).2=decide (p∈seenOf b9):=λ p hp=>by refine aK (uV p hp) λ ns hn wW=>?_;subst wW;have h1:(ie (cj (Zl ns) [⟨[]⟩]) (rowsOf (gR aaG (seenOf b9)))).2=true<->Spec (gR aaG (seenOf b9)) ns:=CU hn.1 λ l hl=>H.nm l (aa7 hl).1;rw [Bool.eq_iff_iff,h1,decide_eq_true_eq,Ui,E0 (ae:=aI) H hn,n5 (ae:=aI) H hn]
 rw [<-Ui] at AZ;rw [Mz] at f nN Uj AZ;have K7:aX.filter (λ p=>!decide (p∈bk aaG)&&((decide (p=aF)||(decide (cE (a9 (aP aaG)) p∈de)||false))&&true))=kE aaG de:=by rw [<-sZ];rfl
 refine aU f (P:=is (kE aaG de)) (by
  rw [<-K7];have e:∀M:List Tx,M=M.map λ c=>c:=λ M=>by rw [List.map_id']
  rw [e (aX.filter _)];refine cK (ai:=aX) (abL:=is) (β:=λ c=>[("page",is c)]) (p:=λ p=>!decide (p∈bk aaG)&&((decide (p=aF)||(decide (cE (a9 (aP aaG)) p∈de)||false))&&true)) (f:=λ c=>c) (Ok:=Plain) bV (bZ aY.handled af) (λ ξ ξ=>rfl) (by w_up) (.name _ _) (λ c ξ=>bB abd) (λ c hc=>?_) (λ c ξ ξ=>af);exact e8 (fo (gm (bg (aV:=is c) (a6:=is (bk aaG)) af af (jJ aY bH) abl) λ ξ=>gm (fo (iL (bg (aV:=is c) (a6:=is aF) af (cD aF abl) (iE aY bH) abl) λ ξ=>iL (bg (aV:=is (cE (a9 (aP aaG)) c)) (a6:=is de) (cP (aV:=gB (iB (a9 (aP aaG)))) (a6:=is c) af af (wg (xq (g.keys c hc))) tD PySem.F.slot_dict_getitem.lookup) af (tc aY bH) abl) λ ξ=>jK)) λ ξ=>g9))) abd (λ d7 h1 h2=>du d7 h1 h2 abd) λ KL f=>?_
 have W':(kE aaG de).length<=30:=by rw [<-K7];exact Nat.le_trans (List.length_filter_le _ _) Mq
 have Qj:∀p∈kE aaG de,p∈aX:=λ p hp=>by rw [<-K7] at hp;exact (aa7 hp).1
 have Uk:aX.filter (λ p=>decide ((kE aaG de).filter (λ one=>decide (rg p one=one))=[]))=qy aaG de:=by rw [<-sZ];rfl
 refine mW (ai:=aX) (abL:=is) (β:=λ c=>[("page",is c)]) (p:=λ p=>decide ((kE aaG de).filter (λ one=>decide (rg p one=one))=[])) (g:=λ c=>c) (Ok:=Plain) f bV (bZ aY.handled af) (λ ξ ξ=>rfl) (by w_up) (.name _ _) (λ c ξ=>bB abd) (λ c hc=>by
  refine e8 (bg (aV:=is ((kE aaG de).filter (λ one=>decide (rg c one=one)))) (a6:=is ([]:List Tx)) ?_ (cf aB (Nat.zero_le _)) (iE aY bH) abl);have e:∀M:List Tx,M=M.map λ c=>c:=λ M=>by rw [List.map_id']
  rw [e ((kE aaG de).filter _)];refine aK (uV c hc) λ ns hn DY=>?_;subst DY;refine cK (ai:=kE aaG de) (abL:=is) (β:=λ c=>[("one",is c)]) (p:=λ one=>decide (rg (Zl ns) one=one)) (f:=λ c=>c) (Ok:=Plain) bV (bZ aY.handled af) (λ ξ ξ=>rfl) (by w_up) (.name _ _) (λ c ξ=>bB abd) (λ one ho=>?_) (λ c ξ ξ=>af);refine aK (uV one (Qj one ho)) λ ms hm DZ=>?_;subst DZ;exact e8 (bg (aV:=is (rg (Zl ns) (Zl ms))) (a6:=is (Zl ms)) (ba (f:=.ref 303) (YN:=[cH [is (Zl ns),is (Zl ms)]]) cI (au (yC (au af (au af aB)) (by show 2<=sizeLine;w_up)) aB) aR ⟨_,_,by rfl,rfl⟩ (MA hn.1 hm.1 (aY.less (by w_up)))) af (iE aY bH) abl)) (λ c ξ ξ=>af) abd (λ d7 h1 h2=>du d7 h1 h2 abd) λ KM f=>?_
 rw [List.map_id',Uk] at f;rw [sZ] at AZ;refine f6 f (b:=!decide (qy aaG de=aX.filter λ p=>decide (p∈de))) (bg (aV:=is (qy aaG de)) (a6:=is (aX.filter λ p=>decide (p∈de))) af (by
   have e:∀M:List Tx,M=M.map λ c=>c:=λ M=>by rw [List.map_id']
   rw [e (aX.filter _)];exact cK (ai:=aX) (abL:=is) (β:=λ c=>[("page",is c)]) (p:=λ p=>decide (p∈de)) (f:=λ c=>c) (Ok:=Plain) bV (bZ aY.handled af) (λ ξ ξ=>rfl) (by w_up) (.name _ _) (λ c ξ=>bB abd) (λ c ξ=>e8 (bg (aV:=is c) (a6:=is de) af af (tc aY bH) abl)) (λ c ξ ξ=>af)) (iF aY bH) abl) (λ hb=>absurd hb (by rw [AZ];simp)) λ ξ KN f=>bf ?_
 have QF:((rowsOf aaG).filter λ r=>decide (r.1∈de)||(!r.2||false)).map (λ r=>((r.1,r.2):Tx×Bool))=rowsOf (gR aaG de):=by
  unfold rowsOf gR;rw [List.filter_map,List.map_map];have e:aaG.filter ((λ r:Tx×Bool=>decide (r.1∈de)||(!r.2||false))∘λ l:ZW=>(Zl l.1,l.2))=aaG.filter λ l=>decide (Zl l.1∈de)||!l.2:=List.filter_congr λ l ξ=>by simp
  rw [e];rfl
 have T7:(rowsOf (gR aaG de)).length<=6:=by unfold rowsOf gR;rw [lm,<-JY];exact List.length_filter_le _ _
 have q6:∀r∈rowsOf (gR aaG de),r.1.cs.length<=1000/\(dX r.1).cs.length<=2000:=λ r hr=>by refine aK (abQ hr) λ l hl QG=>?_;subst QG;exact N6 _ (List.mem_map.mpr ⟨l,(aa7 hl).1,rfl⟩)
 have f:=f.fX (aa_:=(bK []).and dW) ⟨f.jp.2,f.jp.1⟩ λ b m=>m;refine C7 (aa9:=327) (jT:=dW) (gS:=dW) (P:=i8 (dz (rowsOf (gR aaG de)))) f (λ b m q=>nomatch q) (λ b m=>m) ⟨_,_,by rfl,rfl⟩ (qu (aC:=rowsOf (gR aaG de)) (aY.less (by w_up)) (by w_up) q6) cI (au (by rw [<-QF];exact cK (ai:=rowsOf aaG) (abL:=is) (β:=λ c=>[("allowed",is c.2),("page",is c.1)]) (p:=λ r=>decide (r.1∈de)||(!r.2||false)) (f:=λ r=>((r.1,r.2):Tx×Bool)) (Ok:=Plain) bV (bZ aY.handled af) (λ ξ ξ=>rfl) (by w_up) (.tup _ _ _) (λ c ξ=>xA aY.handled abd abd) (λ c ξ=>e8 (fo (iL (bg (aV:=is c.1) (a6:=is de) af af (tc aY bH) abl) λ ξ=>iL (l7 (cM (P:=is c.2) af gk aR)) λ ξ=>jK))) (λ c hc ξ=>r4 (au af (au af aB)))) aB) aR abd aR λ CM f=>?_
 have f:=f.fX (aa_:=dW.and (bK [])) ⟨f.jp.2,f.jp.1⟩ λ b m=>m;have Ky:∀i≤aX.length,(bF aX (a9 (aP aaG)) de aI i).given.length<=100/\(bF aX (a9 (aP aaG)) de aI i).hand.length<=1000/\(bF aX (a9 (aP aaG)) de aI i).past.length<=1000:=λ i ξ=>by refine aM (CY (ae:=aI) H 0) λ σ v=>?_;have v:Inv (bx (aP aaG)) (a9 (aP aaG)) σ [] [] [aF]:=v;rw [sZ] at v;have:=qs (qr (av:=de) (ae:=aI) g.nd v i);w_up
 refine YF (wpAny_Return_some (wpAny_Compare1 (hm:=by rfl) ?_));show wpAny _ abN (do callWith _ (<-eval (.Name "_law_walk" _) d7) [] (backTo _ (starEach _ d7)) []) _ _ CM;refine Z4 ((cI (A:=abN) (v:=.ref 339) abd abd abl).use f.cx λ v xE k₁ c₁ aZ=>?_);rw [show v= .ref 339 from aZ];refine eg abl (Zh (Q:=λ vs s'=>Keeps xE s'/\AllP (hide S s'.heap) [is aX,i8 (dz (rowsOf (gR aaG de))),is aI] vs) (E:=dj) ?_ (λ vs Ul q=>⟨⟨_,_,ao _ _ ((c₁.mono (kle q.1)).top.k 339 _ abl),rfl⟩,?_⟩) eY)
 ·exact (au (P:=is aX) af (au (P:=i8 (dz (rowsOf (gR aaG de)))) af (au (P:=is aI) af aB))) _ d7 _ xE c₁
 have bh:=f.keep (aL k₁ q.1);refine bh.Au (S':=S) (YN:=[is aX,i8 (dz (rowsOf (gR aaG de))),is aI]) (P:=is (fY aX (a9 (aP aaG)) de aI)) (λ b m q=>nomatch q) ⟨λ e m=>absurd m (by simp),λ p m=>absurd m (by simp)⟩ fv (λ b m=>m) (λ b m=>absurd m (by simp)) bh.Zt.loc (λ qj lD=>sX g (aY.less (by w_up)) i0 lD Uj (by w_up) (by w_up) (by w_up)) q.2 λ v Um dC pv=>?_;refine (ba (A:=abN) (f:=.ref 344) (YN:=[is aX,gB (iB (a9 (aP aaG))),is de,is aI]) cI (au af (au af (au af (au af aB)))) aR ⟨_,_,by rfl,rfl⟩ (ux (aY.less (by w_up)) (by w_up) qS g.keys (by w_up) (by w_up) (by w_up) Ky)).use dC.cx λ u Un k₂ c₂ cG=>?_;refine Zh (iE aY (a:=fY aX (a9 (aP aaG)) de aI) (b:=fY aX (a9 (aP aaG)) de aI) bH _ _ _ _ c₂.top c₂.b4 ((is _).mono (aJ (kle k₂)) pv) cG) (λ z s5 q=>?_) dp;have fB:=dC.keep (aL k₂ q.1);have h1:=q.2;rw [show decide (fY aX (a9 (aP aaG)) de aI=fY aX (a9 (aP aaG)) de aI)=true by simp] at h1;exact hQ _ _ (show abO dW.fp lF s5/\dW.p (hide lE s5.heap) s5.heap/\(is true).p (hide lE s5.heap) z from iJ fB.aaH (dW.st (cT fB.sub) ao ao (λ ξ ξ ξ e=>e) fB.jp.1) (wG h1))
end law_main_v
def HH {AX:List Int} {L:List ZW} {R:Value->Shared->Prop}:oV A aa aw az ae AX L ah seen aW R:=s7 (U (U (U (U (U (U (U (U (U (U oV)))))))))) law_main_v.Zk ((((((((((A,aa),aw),az),ae),AX),L),ah),seen),aW),R)
def MG {xs:List Int} (hx:xs.length<=63) (abx:cy 14 A) (hA:A.frames=some []):wu A (.ref 349) [qA xs] dW dW (is true):=λ S s vs T fr hS hJ p=>by
 have hl:=br;refine kI (ρ:=[("script",qA xs)]) (J:=dW) (F:=[317]) (o:=HP) T fr abx p abl rfl aaT ⟨348,Nn,_,_,rfl,by rfl,rfl,rfl⟩ ["script"]
  (mC (λ a=>by rfl)) abl abd abd hJ (λ b m=>⟨hS b m,m⟩) λ A' Q' aa mD aA aY i0 hQ ξ ξ fv f=>?_
 have i0:A'.frames=some (aa::[]):=by rw [i0,hA];rfl
 refine Bv (ai:=List.range 6) (abL:=λ i=>is ((0:Int)+(i:Int)*1)) (β:=λ i=>[("place",is ((0:Int)+(i:Int)*1))]) (p:=λ ξ=>true) (R:=λ ξ=>anyI) (P:=K2 λ ns:{ns:List Int//ns.length=6}=>is ns.1) (Ok:=Plain) f bV
  (mu (a:=0) (b:=6) (c:=1) (n:=6) aY.handled (ba (f:=.type "range") (YN:=[is (6:Int)]) aQ (au bX aB) aR trivial oq) (oN (n:=6) (by w_up)) (nX 6)) (λ ξ ξ=>rfl) (by rw [hl];decide) (.name _ _) (λ c ξ=>bB abd) (λ ξ ξ=>fy) (λ i hi ξ=>by
   have nO:i<6:=List.mem_range.mp hi;have e0:(0:Int)+(i:Int)*1=(i:Int):=by w_up
   rw [e0];refine c6 (aV:=anyI) (a6:=is (E8.getD i 0)) (ba (f:=.builtin "sum") (YN:=[E1]) aQ (au (cP (aV:=is (xs.take 60)) (a6:=ef (some (i:Int)) none (some 6)) (cP (aV:=qA xs) (a6:=ef none (some ((60:Nat):Int)) none) af (fq cR (eN bX) cR) (Fa (by w_up)) E9 PySem.F.slot_list_getitem.lookup) (fq (eN af) cR (eN bX)) (yw bH (by rw [List.length_take];w_up)) ty_list PySem.F.slot_list_getitem.lookup) aB) aR trivial (C1 aY.handled))
    (cP (aV:=is E8) (a6:=is (i:Int)) (cf (xs:=E8) (au bX (au bX (au bX (au bX (au bX (au bX aB)))))) (by show 6<=sizeLine;w_up)) af (dD (by w_up) (by w_up) (by
     rw [Int.toNat_natCast];have:i=0\/i=1\/i=2\/i=3\/i=4\/i=5:=by w_up
     rcases this with rfl|rfl|rfl|rfl|rfl|rfl<;>rfl)) ty_list PySem.F.slot_list_getitem.lookup) C2) abd (λ aa h1 h2=>du aa h1 h2 abd) (λ h v q=>by
   refine bw q λ a vs m fR ha pa=>?_;subst fR;have e:(((List.range 6).filter λ ξ=>true).map λ ξ=>anyI)=List.replicate 6 anyI:=rfl;rw [e] at pa;refine aK (Fb pa) λ ns h1 h2=>?_;exact ⟨⟨ns,h1⟩,is_list.mpr ⟨a,vs,m,rfl,ha,h2⟩⟩) λ aH f=>?_
 refine aM (f.pin abd) λ eL f=>?_;obtain ⟨ae,K6⟩:=eL;exact HH aY i0 fv K6 rfl rfl rfl rfl rfl (f.ek (ay abl bO)) hQ
def q0:Program:={XX with main:={XX.main with body:=[]}}
section
variable {p:Program}
def m8 (x:h.Ns a m) (ha:a≠317):(hide [317] h).Ns a m:=by obtain ⟨o,es,ep,e,r⟩:=x;refine ⟨o,es,ep,?_,r⟩;rw [bI,if_neg (by simpa using ha)];exact e
def K8 (T:Top p loose oW mg mb h) (hi:importsNone p=true) (abg:h.get? 317=some (A1)):∃q loose oW mg mb,Top q loose oW mg mb (hide [317] h)/\importsNone q=true:=by
 have Uo:∀{bm:Addr} {ob:Obj},h.get? bm=some ob->ob.cls= .type "module"->(hide [317] h).get? bm=some ob:=λ {bm ob} e c=>by
  rw [bI,if_neg]
  ·exact e
  ·intro m;rw [bj m,abg] at e;cases e;cases c
 refine ⟨q0,loose++(recsOf p).map (·.name)++(litsOf p).map (·.1)++(clssOf p loose).map (·.name),oW,mg,mb,⟨m8 T.g bH,m8 T.b bH,?_,?_,(λ d m=>(nomatch m)),(λ d m=>(nomatch m)),(λ x d e=>by cases e),(λ x h1 h2 ξ ξ ξ=>?_),T.builtins,(λ d m=>(nomatch m)),?_,λ ξ=>?_⟩,rfl⟩
 ·obtain ⟨mc,a,b⟩:=T.nolimit;exact ⟨mc,m8 a bH,b⟩
 ·obtain ⟨mc,a,b⟩:=T.nodigits;exact ⟨mc,m8 a bH,b⟩
 ·simp only [List.mem_append,not_or] at h2;exact T.free x h1 h2.1.1.1 h2.1.1.2 h2.1.2 h2.2
 ·obtain ⟨bm,ob,a,b,c,d,e,f⟩:=T.bmain;exact ⟨bm,ob,a,b,Uo c d,d,e,f⟩
 ·have S:=T.seer hi;obtain ⟨mc,a1,a2⟩:=S.statics;obtain ⟨mm,b1,b2⟩:=S.mods;obtain ⟨Yz,c1,c2⟩:=S.imp;obtain ⟨WS,bm,ob,d1,d2,d3,Zx,aao⟩:=S.main;exact ⟨⟨mc,m8 a1 bH,a2⟩,⟨mm,m8 b1 bH,b2⟩,⟨Yz,m8 c1 bH,c2⟩,WS,bm,ob,m8 d1 bH,d2,Uo d3 Zx,Zx,aao⟩
def xQ (T:Top p loose oW mg mb h) (hi:importsNone p=true) (XJ:(X0 w.params).In h):er (hide [317] h):=by
 have abg:h.get? 317=some (A1):=XJ _ _ abl;refine ⟨λ a o e=>?_,K8 T hi abg⟩;have ha:a≠317:=λ q=>by
  rw [q] at e;have:(KK w.params).lookup 317=none:=by rfl
  rw [this] at e;cases e
 rw [bI,if_neg (by simpa using ha)];refine XJ a o ?_;show List.lookup a ((317,A1)::KK w.params)=_;rw [List.lookup_cons,beq_eq_false_iff_ne.mpr ha];exact e
def HJ {l:Addr} {xs:List Int} (T:Top p loose oW mg mb aj.heap) (hi:importsNone p=true) (XJ:(X0 w.params).In aj.heap) (hl:aj.heap.IsList l vs.toArray) (hx:IntsAre vs xs) (hz:xs.length<=63)
  {Q:Value->Shared->Prop} {E:Value->Shared->Prop} (k:∀s',(∃h tk,s'={aj with heap:=h,toks:=tk})->(∀b o,b≠317->aj.heap.get? b=some o->s'.heap.get? b=some o)->aj.heap.get? 317=some (Fz #[])->(∃ps,s'.heap.get? 317=some (Fz ps))->Q (.bool true) s'):
  wpAny (model XX w) callerA (call (.ref 349) [.ref l]) Q E aj:=by
 have abg:aj.heap.get? 317=some (A1):=XJ _ _ abl;have abx:cy 14 callerA:=⟨rfl,by decide,by decide,rfl,⟨[],rfl⟩⟩;have T':=xQ T hi XJ;have mP:∀{vs:List Value} {xs:List Int},IntsAre vs xs->AllP (hide [317] aj.heap) (xs.map is) vs:=by
  intro vs xs h;induction h with
  |nil=>exact trivial
  |cons n t _ ih=>exact ⟨bD.mpr ⟨t,rfl⟩,ih⟩
 obtain ⟨o,ho,hc,n,hd⟩:=hl;have WT:l≠317:=λ q=>by rw [q,abg] at ho;cases ho;cases hc
 have De:(hide [317] aj.heap).get? l=some o:=by rw [bI,if_neg (by simpa using WT)];exact ho
 refine Zh (MG hz abx rfl [317] aj [.ref l] T' (λ b m=>by rw [bj m];exact ⟨_,abg⟩) (λ b m=>m) ⟨#[],abg,trivial,λ ar c e=>by cases e⟩ ⟨⟨l,vs.toArray,rfl,⟨o,De,hc,n,hd⟩,mP hx⟩,trivial⟩) (λ v s' q=>?_) λ ξ ξ q=>q.elim;obtain ⟨aaH,⟨ps,hp,_⟩,pv⟩:=q;rw [is_bool.mp pv];exact k s' aaH.same (λ b o nb e=>aaH.keep b o (by simpa [dW] using nb) e) abg ⟨ps,hp⟩
def QH (g:h.Ns mainGlobals mg) (XJ:(X0 w.params).In h) (Dd:mg "law"=some (.ref aa9)):aa9=349:=by
 have h3:h.get? mainGlobals=some (Yp w.params):=XJ _ _ abl;have h1:=BF g h3 "law";have h2:lookIn "law" (Yp w.params)=some (some (.ref 349)):=by rfl
 rw [h1,Dd] at h2;injection h2 with h2;injection h2 with h2;injection h2
def HK {c:ClaimW} {cl:Str->Option Addr} {zA:ExcName->Option Value} {aE:List WData} {l:Addr} {xs:List Int} (T:Top p loose oW mg mb aj.heap) (hi:importsNone p=true) (XJ:(X0 w.params).In aj.heap) (Dd:mg "law"=some (.ref aa9))
  (hl:aj.heap.IsList l vs.toArray) (hx:IntsAre vs xs) (hz:xs.length<=63) (hg:aj.gens=#[]) (hr:∀cls,c.raises aE cls=false) (hp:c.post aE (.bool true) aE=true):
  wpAny (model XX w) callerA (call (.ref aa9) [.ref l]) (λ v s'=>GoodWG c cl zA aE aj (.ok (.ret v)) s') E aj:=by
 rw [QH T.g XJ Dd];have T':=xQ T hi XJ;refine HJ T hi XJ hl hx hz λ s' same keep abg ps=>?_;obtain ⟨h',tk,rfl⟩:=same;obtain ⟨ps,x7⟩:=ps;have WU:=(yO T' ao abg trivial).2.isCodeTable;refine ⟨.inl ⟨_,.bool true,[],rfl,hr,.bool true,hp,λ ξ=>⟨List.nodup_nil,λ a m=>(nomatch m)⟩⟩,⟨λ b o e=>?_,λ b o e=>?_⟩,rfl,?_⟩
 ·by_cases q:b=317
  ·subst q;rw [abg] at e;cases e;refine .inr (.inl ⟨WU,rfl,#[],ps,rfl,?_⟩);rw [x7];simp
  ·exact .inl (keep b o q e)
 ·by_cases q:b=317
  ·subst q;exact ⟨_,x7⟩
  ·exact ⟨o,keep b o q e⟩
 ·exact AllBare.of_eq (by show aj.gens=#[];exact hg)
end
def HL:∀v,s8 v:=HQ λ p loose oW mg mb c cl zA aE aj aa9 l vs xs E T hi XJ Dd hl hx hz hg hr hp=>HK T hi XJ Dd hl hx hz hg hr hp
end Mine
end
theorem PySem.Challenge.cw_rt0105_01_holds : PySem.Challenge.rw_rt0105_01.Holds := by
  exact Mine.Gq Mine.HL
