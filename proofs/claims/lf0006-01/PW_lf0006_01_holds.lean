import PyProof.Rows.All
import Wide.All
import OpenK.AllK
import Wide.FinOn
import PySem.Challenge.RW_lf0006_01
set_option Elab.async false
set_option maxRecDepth 100000
set_option linter.all false
set_option genSizeOf false
set_option genInjectivity false
set_option bootstrap.genMatcherCode false
set_option autoImplicit true
section
namespace Mine.H
open PySem PySem.W
noncomputable section
def PR:Program:=PySem.Challenge.rw_lf0006_01.row.toRowW.1
def tS:List Stmt:=PR.main.body
noncomputable def bY(l:List Stmt)(i:Nat):Stmt:=List.rec (fun _=>Stmt.Pass default) (fun a _ ih i=>Nat.rec a (fun j _=>ih j) i) l i
def cB:Stmt->List Stmt
 | .ClassDef _ _ _ b _ _ _ _ _ _ _=>b
 |_=>[]
def fA:Stmt->Arguments
 | .FunctionDef _ a _ _ _ _ _ _ _ _=>a
 |_=>default
def fB:Stmt->List Stmt
 | .FunctionDef _ _ b _ _ _ _ _ _ _=>b
 |_=>default
def fS:Stmt->Scope
 | .FunctionDef _ _ _ _ _ _ s _ _ _=>s
 |_=>default
def fN(s:Stmt):List (Str×NameKind):=(fS s).names
noncomputable def T0:=bY tS 0
noncomputable def T1:=bY tS 1
noncomputable def T2:=bY tS 2
noncomputable def T3:=bY tS 3
noncomputable def Wk:=bY (cB T3) 1
noncomputable def Iw:=bY (cB T3) 2
noncomputable def T4:=bY tS 4
noncomputable def T5:=bY tS 5
noncomputable def T6:=bY tS 6
noncomputable def T7:=bY tS 7
noncomputable def T8:=bY tS 8
noncomputable def T9:=bY tS 9
noncomputable def Oi:=bY tS 10
noncomputable def Iy:=bY tS 11
noncomputable def zP:=bY (cB Iy) 0
noncomputable def zO:=bY (cB Iy) 1
noncomputable def rR:=bY (cB Iy) 2
noncomputable def rP:=bY (cB Iy) 3
noncomputable def rO:=bY (cB Iy) 4
noncomputable def rN:=bY (cB Iy) 5
noncomputable def zJ:=bY (cB Iy) 6
noncomputable def Ny:=bY tS 12
noncomputable def zI:=bY (cB Ny) 1
noncomputable def J5:=bY (cB Ny) 2
noncomputable def J4:=bY (cB Ny) 3
noncomputable def J3:=bY (cB Ny) 4
noncomputable def J2:=bY (cB Ny) 5
noncomputable def Xj:=bY tS 13
noncomputable def JZ:=bY (cB Xj) 1
noncomputable def JY:=bY (cB Xj) 2
noncomputable def Oh:=bY tS 14
noncomputable def zH:=bY (cB Oh) 0
noncomputable def rM:=bY (cB Oh) 1
noncomputable def JX:=bY (cB Oh) 2
noncomputable def zG:=bY (cB Oh) 3
noncomputable def wd:=bY tS 15
noncomputable def zE:=bY (cB wd) 0
noncomputable def rL:=bY (cB wd) 1
noncomputable def rK:=bY (cB wd) 2
noncomputable def rJ:=bY (cB wd) 3
noncomputable def nu:=bY (cB wd) 4
noncomputable def kr:=bY (cB wd) 5
noncomputable def zD:=bY (cB wd) 6
noncomputable def rH:=bY (cB wd) 7
noncomputable def zC:=bY (cB wd) 8
noncomputable def iR:=bY (cB wd) 9
noncomputable def tD:=bY (cB wd) 10
noncomputable def mW:=bY (cB wd) 11
noncomputable def tC:=bY (cB wd) 12
noncomputable def tB:=bY (cB wd) 13
noncomputable def mV:=bY (cB wd) 14
noncomputable def Wl:=bY tS 16
noncomputable def zA:=bY (cB Wl) 0
noncomputable def zz:=bY (cB Wl) 1
noncomputable def nt:=bY (cB Wl) 2
noncomputable def T17:=bY tS 17
noncomputable def yb:=bY tS 18
noncomputable def rG:=bY (cB yb) 0
noncomputable def zy:=bY (cB yb) 1
noncomputable def zx:=bY (cB yb) 2
noncomputable def zw:=bY (cB yb) 3
noncomputable def zv:=bY (cB yb) 4
noncomputable def zu:=bY (cB yb) 5
noncomputable def JW:=bY (cB yb) 6
noncomputable def JV:=bY (cB yb) 7
noncomputable def JU:=bY (cB yb) 8
noncomputable def rF:=bY (cB yb) 9
noncomputable def tA:=bY (cB yb) 10
noncomputable def tx:=bY (cB yb) 11
noncomputable def tw:=bY (cB yb) 12
noncomputable def JT:=bY tS 19
noncomputable def rE:=bY (cB JT) 0
noncomputable def rD:=bY (cB JT) 1
noncomputable def kq:=bY (cB JT) 2
noncomputable def zt:=bY (cB JT) 3
noncomputable def zr:=bY (cB JT) 4
noncomputable def zq:=bY (cB JT) 5
noncomputable def T20:=bY tS 20
noncomputable def T21:=bY tS 21
noncomputable def T22:=bY tS 22
noncomputable def Og:=bY tS 23
noncomputable def Of:=bY tS 24
noncomputable def Oe:=bY tS 25
noncomputable def Od:=bY tS 26
noncomputable def Oc:=bY tS 27
noncomputable def Ob:=bY tS 28
noncomputable def B2:=bY tS 29
noncomputable def Nx:=bY tS 30
noncomputable def qh:=bY tS 31
noncomputable def FN:=bY tS 32
abbrev r(n:Nat):Value:= .ref n
abbrev i(a:Int):Value:= .int a 0
abbrev s(x:Str)(n:Nat):Value:= .str x n
abbrev b(x:String):Value:= .builtin x
abbrev y(x:String):Value:= .type x
abbrev vD:Value:=s "doit.dependency" 308
abbrev vF:Value:=y "function"
abbrev vT:Value:=y "tuple"
abbrev vZ:Value:=i 0
abbrev vE:Value:=s "doit.exceptions" 194
abbrev vB:Value:=y "builtin_function_or_method"
abbrev vK:Value:=s "doit.task" 800
abbrev vI:Value:=b "object.__init_subclass__"
abbrev vC:Value:=y "dict"
abbrev vG:Value:=y "getset_descriptor"
abbrev vO:Value:=y "object"
abbrev vW:Value:=b "ExceptionGroup.__weakref__"
noncomputable def en(P:Params)(x:Str)(n:Nat)(v:Value):DictEntry:=⟨PyData.keyHash P x, .str x n,v⟩
noncomputable def eS(P:Params)(n:Nat)(v:Value):DictEntry:=en P "__static_attributes__" n v
noncomputable def eF(P:Params)(n:Nat)(v:Value):DictEntry:=en P "__firstlineno__" n v
noncomputable def eM(P:Params)(n:Nat)(v:Value):DictEntry:=en P "__module__" n v
noncomputable def ob(c:Value)(d:Data):Obj:=⟨c,none,d,#[]⟩
noncomputable def co(a c:Str)(n:Nat)(l x1 x2 x3 x4:Int)(rc:Nat)(bb:Bool)(f:Int)(rd:Nat)(v1 v2 v3 v4:Value)(m:Int):Obj:=ob (y "code") (.fields #[s a n,s c (n+1),s "/claim/cut.py" (n+2),i l,i x1,i x2,i x3,i x4,r rc, .bool bb,i f,r rd,v1,v2,v3,v4,i m,i l,s "/claim/cut.py" (m.toNat+1)])
noncomputable def fq(x q:Str)(T:Stmt)(n:Nat)(m c:Value):Data:= .func ⟨x,q,fA T, .stmts (fB T),fS T,n,[], .none, .none, .none,m,none,c, .none,0⟩
noncomputable def fo(x:Str)(T:Stmt)(n:Nat)(m c:Value):Data:= .func ⟨x,x,fA T, .stmts (fB T),fS T,n,[], .none, .none, .none,m,none,c, .none,0⟩
noncomputable def fW(P:Params):List Value:=[(i 1),vZ,(r 20),(i 5),vZ,(r 27),(i 7),vZ,(r 40),(i 15),vZ,(r 68),(i 17),vZ,(r 80),(i 19),vZ,(r 92),(i 22),vZ,(r 104),(i 24),vZ,(r 117),(i 26),vZ,(r 130),(i 28),vZ,(r 137),(i 54),vZ,(r 200),(i 73),vZ,(r 249),(i 91),vZ,(r 275),(i 115),vZ,(r 318),(i 241),vZ,(r 437),(i 254),vZ,(r 472),(i 370),vZ,(r 583),(i 412),vZ,(r 640),(i 416),vZ,(r 647),(i 418),vZ,(r 654),(i 422),vZ,(r 659),(i 426),vZ,(r 664),(i 431),vZ,(r 671),(i 444),vZ,(r 678),(i 457),vZ,(r 683),(i 470),vZ,(r 690),(i 481),vZ,(r 695)]
noncomputable def JP(P:Params):List Value:=[(i 117),(i 4),(r 325),(i 122),(i 4),(r 332),(i 125),(i 4),(r 339),(i 128),(i 4),(r 346),(i 131),(i 4),(r 353),(i 134),(i 4),(r 360),(i 137),(i 4),(r 367),(i 142),(i 4),(r 375),(i 158),(i 4),(r 382),(i 162),(i 4),(r 389),(i 171),(i 4),(r 396),(i 174),(i 4),(r 403),(i 177),(i 4),(r 410),(i 180),(i 4),(r 417),(i 183),(i 4),(r 423)]
noncomputable def JM(P:Params):List Value:=[(i 256),(i 4),(r 486),(i 281),(i 4),(r 493),(i 293),(i 4),(r 500),(i 302),(i 4),(r 507),(i 315),(i 4),(r 514),(i 323),(i 4),(r 521),(i 330),(i 4),(r 528),(i 335),(i 4),(r 535),(i 338),(i 4),(r 542),(i 341),(i 4),(r 550),(i 346),(i 4),(r 555),(i 356),(i 4),(r 562),(i 360),(i 4),(r 569)]
noncomputable def fX(P:Params):List DictEntry:=[en P "__name__" 165 (s "law_lf0006_01" 1040),en P "__doc__" 166 .none,en P "__package__" 167 .none,en P "__loader__" 168 (b "__main__.__loader__#opaque"),en P "__spec__" 169 .none,en P "__annotations__" 170 (r 6),en P "__builtins__" 171 (r 4),en P "__file__" 173 (s "/claim/cut.py" 172),en P "__cached__" 174 .none,en P "_wall" 193 (r 21),en P "InvalidTask" 215 (r 31),en P "CatchedException" 253 (r 58),en P "BaseFail" 271 (r 72),en P "TaskFailed" 289 (r 84),en P "TaskError" 307 (r 96),en P "MissingFile" 329 (r 108),en P "NoValue" 349 (r 121),en P "get_md5" 356 (r 131),en P "JsonDB" 434 (r 190),en P "FileChangedChecker" 500 (r 239),en P "MD5Checker" 543 (r 267),en P "DependencyStatus" 602 (r 308),en P "Dependency" 752 (r 427),en P "UptodateCalculator" 799 (r 462),en P "Task" 964 (r 573),en P "result_dep" 1039 (r 630),en P "_law_subs" 1045 (r 633),en P "_law_all" 1053 (r 634),en P "_law_result" 1060 (r 641),en P "_law_group" 1067 (r 648),en P "_law_consumer" 1075 (r 655),en P "_law_now" 1081 (r 660),en P "_law_told" 1087 (r 665),en P "_law_make" 1102 (r 672),en P "_law_end" 1120 (r 679),en P "_law_ask" 1126 (r 684),en P "_law_reads" 1139 (r 691),en P "law" 1145 (r 696)]
noncomputable def JQ(P:Params):List DictEntry:=[eM P 610 vD,en P "__qualname__" 612 (s "Dependency" 611),eF P 614 (.int 115 613),en P "__init__" 623 (r 326),en P "_set" 633 (r 333),en P "_get" 642 (r 340),en P "remove" 650 (r 347),en P "remove_all" 657 (r 354),en P "_in" 665 (r 361),en P "close" 672 (r 368),en P "save_success" 683 (r 376),en P "get_values" 692 (r 383),en P "get_value" 703 (r 390),en P "get_result" 711 (r 397),en P "remove_success" 719 (r 404),en P "ignore" 727 (r 411),en P "status_is_ignore" 735 (r 418),en P "get_status" 741 (r 424),eS P 745 (r 425)]
noncomputable def JN(P:Params):List DictEntry:=[eM P 809 vK,en P "__qualname__" 811 (s "Task" 810),eF P 813 (.int 254 812),en P "__init__" 831 (r 487),en P "_init_deps" 841 (r 494),en P "_init_targets" 851 (r 501),en P "_init_uptodate" 861 (r 508),en P "_expand_file_dep" 870 (r 515),en P "_expand_task_dep" 879 (r 522),en P "_expand_calc_dep" 888 (r 529),en P "_extend_uptodate" 896 (r 536),en P "update_deps" 904 (r 543),en P "init_options" 912 (r 551),en P "_init_getargs" 918 (r 556),en P "save_extra_values" 927 (r 563),en P "execute" 938 (r 570),eS P 957 (r 571)]
noncomputable def Wh(P:Params):List (Option Value):=[none,none,(some (s "CatchedException" 216)),(some (s "CatchedException" 224)),(some (b "object.__new__")),(some (.bool .true))]
noncomputable def FL(P:Params):List (Option Value):=[(some (r 63)),none,(some (s "BaseFail" 254)),(some (s "BaseFail" 262)),(some (b "object.__new__")),(some (.bool .true))]
noncomputable def JR(P:Params):List (Option Value):=[none,none,(some (s "FileChangedChecker" 435)),(some (s "FileChangedChecker" 443)),(some (b "object.__new__")),(some (.bool .true))]
noncomputable def JO(P:Params):List (Option Value):=[none,none,(some (s "UptodateCalculator" 753)),(some (s "UptodateCalculator" 761)),(some (b "object.__new__")),(some (.bool .true))]
noncomputable def aC(P:Params):=ob vT (.seq #[] 0)
noncomputable def cL(P:Params):=ob .none (.fields #[])
noncomputable def o45(P:Params):=co "<module>" "<module>" 182 1 0 0 0 0 11 .false 181 12 .none .none .none .none 185
noncomputable def o46(P:Params):Obj:=⟨(y "frame"),none, .plain,#[(some (r 13)),(some (r 3)),(some (r 3)),none,(some (s "__main__" 164)),none,(some (r 0))]⟩
noncomputable def Rt(P:Params):=ob .none (.dict #[en P "type.__subclasses__.Exception.0" 212 (i 31),en P "type.__subclasses__.Exception.n" 213 (i 1)] 2)
noncomputable def o50(P:Params):=ob vC (.dict ((((fX P).take 11).set 0 (en P "__name__" 165 vE)).toArray) 11)
noncomputable def o51(P:Params):=ob .none (.fields (((fW P).take 6).toArray))
noncomputable def o54(P:Params):=ob vT (.seq #[(s "k" 190)] 0)
noncomputable def o56(P:Params):=ob .none (fo "_wall" T0 0 .none .none)
noncomputable def o57(P:Params):=co "_wall" "_wall" 187 1 1 0 0 3 15 .true 181 16 .none (r 17) (r 18) (r 19) 191
noncomputable def o58(P:Params):=ob vF (fo "_wall" T0 3 (s "__main__" 164) (r 20))
noncomputable def NT(P:Params):=ob vT (.seq #[(y "Exception")] 0)
noncomputable def xh(P:Params):=ob vB (.fields #[(b "type.__prepare__"),(y "type")])
noncomputable def o61(P:Params):=ob vC (.dict #[eM P 203 vE,en P "__qualname__" 205 (s "InvalidTask" 204),eF P 207 (.int 5 206),eS P 208 (r 29)] 4)
noncomputable def o64(P:Params):=co "InvalidTask" "InvalidTask" 198 5 0 0 0 0 25 .false 181 26 .none .none .none .none 201
noncomputable def o65(P:Params):Obj:=⟨(y "frame"),none, .plain,#[(some (r 27)),(some (r 3)),(some (r 24)),none,(some vE),none,(some (r 0))]⟩
noncomputable def o67(P:Params):=ob vC (.dict #[eM P 203 vE,eF P 207 (.int 5 206),eS P 208 (r 29),en P "__weakref__" 210 (r 32),en P "__doc__" 211 .none] 3)
noncomputable def o68(P:Params):Obj:=⟨(y "type"),none,(.cls ⟨"InvalidTask",[(y "Exception")],[(r 31),(y "Exception"),(y "BaseException"),vO],30, "InvalidTask", .true,[],[], .false,none, .false⟩),#[(some (r 22)),none,(some (s "InvalidTask" 196)),(some (s "InvalidTask" 204)),(some (b "Exception.__new__")),(some (.bool .true))]⟩
noncomputable def o69(P:Params):=ob vG (.fields #[(s "__weakref__" 209),(r 31),vW, .none])
noncomputable def o70(P:Params):=ob (y "super") (.fields #[(r 31),(r 31),(r 31)])
noncomputable def o71(P:Params):=ob vB (.fields #[vI,(r 31)])
noncomputable def o72(P:Params):=ob vC (.dict ((((fX P).take 12).set 0 (en P "__name__" 165 vE)).toArray) 12)
noncomputable def o73(P:Params):=ob .none (.fields (((fW P).take 9).toArray))
noncomputable def o76(P:Params):=ob vC (.dict #[eM P 223 vE,en P "__qualname__" 225 (s "CatchedException" 224),eF P 227 (.int 7 226),en P "kind" 229 (s "CatchedException" 228),en P "__init__" 237 (r 48),en P "get_name" 244 (r 55),eS P 246 (r 56)] 7)
noncomputable def o78(P:Params):=ob .none (.fields #[(i 10),(i 4),(r 47),(i 13),(i 4),(r 54)])
noncomputable def o79(P:Params):=co "CatchedException" "CatchedException" 218 7 0 0 0 0 38 .false 181 39 .none .none .none .none 221
noncomputable def o80(P:Params):Obj:=⟨(y "frame"),none, .plain,#[(some (r 40)),(some (r 3)),(some (r 37)),none,(some vE),none,(some (r 0))]⟩
noncomputable def o83(P:Params):=ob vT (.seq #[(s "self" 233),(s "msg" 234)] 0)
noncomputable def o85(P:Params):=ob .none (fq "__init__" "CatchedException.__init__" Wk 0 .none .none)
noncomputable def o86(P:Params):=co "__init__" "CatchedException.__init__" 230 10 2 0 0 3 42 .true 181 43 .none (r 44) (r 45) (r 46) 235
noncomputable def o87(P:Params):=ob vF (fq "__init__" "CatchedException.__init__" Wk 3 vE (r 47))
noncomputable def o90(P:Params):=ob vT (.seq #[(s "self" 241)] 0)
noncomputable def o92(P:Params):=ob .none (.func ⟨"get_name", "CatchedException.get_name",(fA Iw),(.stmts (fB Iw)),(fS nu),0,[], .none, .none, .none, .none,none, .none, .none,0⟩)
noncomputable def o93(P:Params):=co "get_name" "CatchedException.get_name" 238 13 1 0 0 3 49 .true 181 50 .none (r 51) (r 52) (r 53) 242
noncomputable def o94(P:Params):=ob vF (.func ⟨"get_name", "CatchedException.get_name",(fA Iw),(.stmts (fB Iw)),(fS nu),3,[], .none, .none, .none,vE,none,(r 54), .none,0⟩)
noncomputable def o95(P:Params):=ob vT (.seq #[(s "message" 245)] 0)
noncomputable def o96(P:Params):=ob vC (.dict #[eM P 223 vE,eF P 227 (.int 7 226),en P "kind" 229 (s "CatchedException" 228),en P "__init__" 237 (r 48),en P "get_name" 244 (r 55),eS P 246 (r 56),en P "__dict__" 248 (r 59),en P "__weakref__" 250 (r 60),en P "__doc__" 251 .none] 4)
noncomputable def o97(P:Params):Obj:=⟨(y "type"),none,(.cls ⟨"CatchedException",[vO],[(r 58),vO],57, "CatchedException", .true,[],[], .false,none, .false⟩),(Wh P).toArray⟩
noncomputable def o98(P:Params):=ob vG (.fields #[(s "__dict__" 247),(r 58),(b "function.__dict__"),(b "function.__dict__#set")])
noncomputable def o99(P:Params):=ob vG (.fields #[(s "__weakref__" 249),(r 58),vW, .none])
noncomputable def abc(P:Params):=ob (y "super") (.fields #[(r 58),(r 58),(r 58)])
noncomputable def abb(P:Params):=ob vB (.fields #[vI,(r 58)])
noncomputable def aba(P:Params):=ob vC (.dict ((((fX P).take 13).set 0 (en P "__name__" 165 vE)).toArray) 13)
noncomputable def aa9(P:Params):=ob .none (.fields (((fW P).take 12).toArray))
noncomputable def Up(P:Params):Obj:=⟨(y "type"),none,(.cls ⟨"CatchedException",[vO],[(r 58),vO],57, "CatchedException", .true,[],[(r 72)], .false,none, .false⟩),((Wh P).take 6).toArray⟩
noncomputable def Uo(P:Params):=ob vT (.seq #[(r 58)] 0)
noncomputable def aa8(P:Params):=ob vC (.dict #[eM P 261 vE,en P "__qualname__" 263 (s "BaseFail" 262),eF P 265 (.int 15 264),en P "kind" 267 (s "BaseFail" 266),eS P 268 (r 70)] 5)
noncomputable def aa7(P:Params):=co "BaseFail" "BaseFail" 256 15 0 0 0 0 66 .false 181 67 .none .none .none .none 259
noncomputable def aa6(P:Params):Obj:=⟨(y "frame"),none, .plain,#[(some (r 68)),(some (r 3)),(some (r 65)),none,(some vE),none,(some (r 0))]⟩
noncomputable def Un(P:Params):=ob vC (.dict #[eM P 261 vE,eF P 265 (.int 15 264),en P "kind" 267 (s "BaseFail" 266),eS P 268 (r 70),en P "__doc__" 269 .none] 2)
noncomputable def aa5(P:Params):Obj:=⟨(y "type"),none,(.cls ⟨"BaseFail",[(r 58)],[(r 72),(r 58),vO],71, "BaseFail", .true,[],[], .false,none, .false⟩),(FL P).toArray⟩
noncomputable def aa4(P:Params):=ob (y "super") (.fields #[(r 72),(r 72),(r 72)])
noncomputable def aa3(P:Params):=ob vB (.fields #[vI,(r 72)])
noncomputable def aa2(P:Params):=ob vC (.dict ((((fX P).take 14).set 0 (en P "__name__" 165 vE)).toArray) 14)
noncomputable def aa1(P:Params):=ob .none (.fields (((fW P).take 15).toArray))
noncomputable def aa0(P:Params):Obj:=⟨(y "type"),none,(.cls ⟨"BaseFail",[(r 58)],[(r 72),(r 58),vO],71, "BaseFail", .true,[],[(r 84)], .false,none, .false⟩),((FL P).take 6).toArray⟩
noncomputable def HA(P:Params):=ob vT (.seq #[(r 72)] 0)
noncomputable def aaZ(P:Params):=ob vC (.dict #[eM P 279 vE,en P "__qualname__" 281 (s "TaskFailed" 280),eF P 283 (.int 17 282),en P "kind" 285 (s "TaskFailed" 284),eS P 286 (r 82)] 5)
noncomputable def aaY(P:Params):=co "TaskFailed" "TaskFailed" 274 17 0 0 0 0 78 .false 181 79 .none .none .none .none 277
noncomputable def aaX(P:Params):Obj:=⟨(y "frame"),none, .plain,#[(some (r 80)),(some (r 3)),(some (r 77)),none,(some vE),none,(some (r 0))]⟩
noncomputable def Um(P:Params):=ob vC (.dict #[eM P 279 vE,eF P 283 (.int 17 282),en P "kind" 285 (s "TaskFailed" 284),eS P 286 (r 82),en P "__doc__" 287 .none] 2)
noncomputable def Ul(P:Params):Obj:=⟨(y "type"),none,(.cls ⟨"TaskFailed",[(r 72)],[(r 84),(r 72),(r 58),vO],83, "TaskFailed", .true,[],[], .false,none, .false⟩),#[(some (r 75)),none,(some (s "TaskFailed" 272)),(some (s "TaskFailed" 280)),(some (b "object.__new__")),(some (.bool .true))]⟩
noncomputable def aaW(P:Params):=ob (y "super") (.fields #[(r 84),(r 84),(r 84)])
noncomputable def aaV(P:Params):=ob vB (.fields #[vI,(r 84)])
noncomputable def aaU(P:Params):=ob vC (.dict ((((fX P).take 15).set 0 (en P "__name__" 165 vD)).toArray) 15)
noncomputable def aaT(P:Params):=ob .none (.fields (((fW P).take 18).toArray))
noncomputable def Uk(P:Params):Obj:=⟨(y "type"),none,(.cls ⟨"BaseFail",[(r 58)],[(r 72),(r 58),vO],71, "BaseFail", .true,[],[(r 84),(r 96)], .false,none, .false⟩),((FL P).take 6).toArray⟩
noncomputable def aaS(P:Params):=ob vC (.dict #[eM P 297 vE,en P "__qualname__" 299 (s "TaskError" 298),eF P 301 (.int 19 300),en P "kind" 303 (s "TaskError" 302),eS P 304 (r 94)] 5)
noncomputable def aaR(P:Params):=co "TaskError" "TaskError" 292 19 0 0 0 0 90 .false 181 91 .none .none .none .none 295
noncomputable def aaQ(P:Params):Obj:=⟨(y "frame"),none, .plain,#[(some (r 92)),(some (r 3)),(some (r 89)),none,(some vE),none,(some (r 0))]⟩
noncomputable def Uj(P:Params):=ob vC (.dict #[eM P 297 vE,eF P 301 (.int 19 300),en P "kind" 303 (s "TaskError" 302),eS P 304 (r 94),en P "__doc__" 305 .none] 2)
noncomputable def Ui(P:Params):Obj:=⟨(y "type"),none,(.cls ⟨"TaskError",[(r 72)],[(r 96),(r 72),(r 58),vO],95, "TaskError", .true,[],[], .false,none, .false⟩),#[(some (r 87)),none,(some (s "TaskError" 290)),(some (s "TaskError" 298)),(some (b "object.__new__")),(some (.bool .true))]⟩
noncomputable def aaP(P:Params):=ob (y "super") (.fields #[(r 96),(r 96),(r 96)])
noncomputable def aaO(P:Params):=ob vB (.fields #[vI,(r 96)])
noncomputable def Uh(P:Params):=ob .none (.dict #[en P "type.__subclasses__.Exception.0" 212 (i 31),en P "type.__subclasses__.Exception.n" 213 (i 3),en P "type.__subclasses__.Exception.1" 326 (i 108),en P "type.__subclasses__.Exception.2" 346 (i 121)] 4)
noncomputable def aaN(P:Params):=ob vC (.dict ((((fX P).take 17).set 0 (en P "__name__" 165 vD)).toArray) 17)
noncomputable def aaM(P:Params):=ob .none (.fields (((fW P).take 24).toArray))
noncomputable def aaL(P:Params):=ob vC (.dict #[eM P 317 vD,en P "__qualname__" 319 (s "MissingFile" 318),eF P 321 (.int 22 320),eS P 322 (r 106)] 4)
noncomputable def aaK(P:Params):=co "MissingFile" "MissingFile" 312 22 0 0 0 0 102 .false 181 103 .none .none .none .none 315
noncomputable def aaJ(P:Params):Obj:=⟨(y "frame"),none, .plain,#[(some (r 104)),(some (r 3)),(some (r 101)),none,(some vD),none,(some (r 0))]⟩
noncomputable def Ug(P:Params):=ob vC (.dict #[eM P 317 vD,eF P 321 (.int 22 320),eS P 322 (r 106),en P "__weakref__" 324 (r 109),en P "__doc__" 325 .none] 3)
noncomputable def Ue(P:Params):Obj:=⟨(y "type"),none,(.cls ⟨"MissingFile",[(y "Exception")],[(r 108),(y "Exception"),(y "BaseException"),vO],107, "MissingFile", .true,[],[], .false,none, .false⟩),#[(some (r 99)),none,(some (s "MissingFile" 310)),(some (s "MissingFile" 318)),(some (b "Exception.__new__")),(some (.bool .true))]⟩
noncomputable def Ud(P:Params):=ob vG (.fields #[(s "__weakref__" 323),(r 108),vW, .none])
noncomputable def aaI(P:Params):=ob (y "super") (.fields #[(r 108),(r 108),(r 108)])
noncomputable def aaH(P:Params):=ob vB (.fields #[vI,(r 108)])
noncomputable def aaG(P:Params):=ob vC (.dict #[eM P 337 vD,en P "__qualname__" 339 (s "NoValue" 338),eF P 341 (.int 24 340),eS P 342 (r 119)] 4)
noncomputable def aaF(P:Params):=co "NoValue" "NoValue" 332 24 0 0 0 0 115 .false 181 116 .none .none .none .none 335
noncomputable def aaE(P:Params):Obj:=⟨(y "frame"),none, .plain,#[(some (r 117)),(some (r 3)),(some (r 114)),none,(some vD),none,(some (r 0))]⟩
noncomputable def Uc(P:Params):=ob vC (.dict #[eM P 337 vD,eF P 341 (.int 24 340),eS P 342 (r 119),en P "__weakref__" 344 (r 122),en P "__doc__" 345 .none] 3)
noncomputable def Ub(P:Params):Obj:=⟨(y "type"),none,(.cls ⟨"NoValue",[(y "Exception")],[(r 121),(y "Exception"),(y "BaseException"),vO],120, "NoValue", .true,[],[], .false,none, .false⟩),#[(some (r 112)),none,(some (s "NoValue" 330)),(some (s "NoValue" 338)),(some (b "Exception.__new__")),(some (.bool .true))]⟩
noncomputable def Ua(P:Params):=ob vG (.fields #[(s "__weakref__" 343),(r 121),vW, .none])
noncomputable def aaD(P:Params):=ob (y "super") (.fields #[(r 121),(r 121),(r 121)])
noncomputable def aaC(P:Params):=ob vB (.fields #[vI,(r 121)])
noncomputable def aaB(P:Params):=ob vC (.dict ((((fX P).take 18).set 0 (en P "__name__" 165 vD)).toArray) 18)
noncomputable def aaA(P:Params):=ob .none (.fields (((fW P).take 27).toArray))
noncomputable def TZ(P:Params):=ob vT (.seq #[(s "input_data" 353)] 0)
noncomputable def aaz(P:Params):=ob .none (fo "get_md5" Oi 0 .none .none)
noncomputable def TY(P:Params):=co "get_md5" "get_md5" 350 26 1 0 0 3 125 .true 181 126 .none (r 127) (r 128) (r 129) 354
noncomputable def TX(P:Params):=ob vF (fo "get_md5" Oi 3 vD (r 130))
noncomputable def aay(P:Params):=ob vC (.dict ((((fX P).take 19).set 0 (en P "__name__" 165 vD)).toArray) 19)
noncomputable def aax(P:Params):=ob .none (.fields (((fW P).take 30).toArray))
noncomputable def aaw(P:Params):=ob vC (.dict #[eM P 364 vD,en P "__qualname__" 366 (s "JsonDB" 365),eF P 368 (.int 28 367),en P "__init__" 376 (r 145),en P "dump" 383 (r 152),en P "set" 393 (r 159),en P "get" 402 (r 166),en P "in_" 410 (r 173),en P "remove" 418 (r 180),en P "remove_all" 425 (r 187),eS P 427 (r 188)] 11)
noncomputable def aav(P:Params):=ob .none (.fields #[(i 30),(i 4),(r 144),(i 33),(i 4),(r 151),(i 36),(i 4),(r 158),(i 41),(i 4),(r 165),(i 45),(i 4),(r 172),(i 48),(i 4),(r 179),(i 52),(i 4),(r 186)])
noncomputable def aau(P:Params):=co "JsonDB" "JsonDB" 359 28 0 0 0 0 135 .false 181 136 .none .none .none .none 362
noncomputable def aat(P:Params):Obj:=⟨(y "frame"),none, .plain,#[(some (r 137)),(some (r 3)),(some (r 134)),none,(some vD),none,(some (r 0))]⟩
noncomputable def TV(P:Params):=ob vT (.seq #[(s "self" 372),(s "db" 373)] 0)
noncomputable def aas(P:Params):=ob .none (fq "__init__" "JsonDB.__init__" zP 0 .none .none)
noncomputable def TU(P:Params):=co "__init__" "JsonDB.__init__" 369 30 2 0 0 3 139 .true 181 140 .none (r 141) (r 142) (r 143) 374
noncomputable def TS(P:Params):=ob vF (fq "__init__" "JsonDB.__init__" zP 3 vD (r 144))
noncomputable def TR(P:Params):=ob vT (.seq #[(s "self" 380)] 0)
noncomputable def aar(P:Params):=ob .none (.func ⟨"dump", "JsonDB.dump",(fA zO),(.stmts (fB zO)),(fS kq),0,[], .none, .none, .none, .none,none, .none, .none,0⟩)
noncomputable def TQ(P:Params):=co "dump" "JsonDB.dump" 377 33 1 0 0 3 146 .true 181 147 .none (r 148) (r 149) (r 150) 381
noncomputable def TO(P:Params):=ob vF (.func ⟨"dump", "JsonDB.dump",(fA zO),(.stmts (fB zO)),(fS kq),3,[], .none, .none, .none,vD,none,(r 151), .none,0⟩)
noncomputable def TN(P:Params):=ob vT (.seq #[(s "self" 387),(s "task_id" 388),(s "dependency" 389),(s "value" 390)] 0)
noncomputable def aaq(P:Params):=ob .none (.func ⟨"set", "JsonDB.set",(fA rR),(.stmts (fB rR)),(fS rL),0,[], .none, .none, .none, .none,none, .none, .none,0⟩)
noncomputable def TM(P:Params):=co "set" "JsonDB.set" 384 36 4 0 0 3 153 .true 181 154 .none (r 155) (r 156) (r 157) 391
noncomputable def TL(P:Params):=ob vF (.func ⟨"set", "JsonDB.set",(fA rR),(.stmts (fB rR)),(fS rL),3,[], .none, .none, .none,vD,none,(r 158), .none,0⟩)
noncomputable def TK(P:Params):=ob vT (.seq #[(s "self" 397),(s "task_id" 398),(s "dependency" 399)] 0)
noncomputable def aap(P:Params):=ob .none (.func ⟨"get", "JsonDB.get",(fA rP),(.stmts (fB rP)),(fS nt),0,[], .none, .none, .none, .none,none, .none, .none,0⟩)
noncomputable def TJ(P:Params):=co "get" "JsonDB.get" 394 41 3 0 0 3 160 .true 181 161 .none (r 162) (r 163) (r 164) 400
noncomputable def TH(P:Params):=ob vF (.func ⟨"get", "JsonDB.get",(fA rP),(.stmts (fB rP)),(fS nt),3,[], .none, .none, .none,vD,none,(r 165), .none,0⟩)
noncomputable def TG(P:Params):=ob vT (.seq #[(s "self" 406),(s "task_id" 407)] 0)
noncomputable def aao(P:Params):=ob .none (.func ⟨"in_", "JsonDB.in_",(fA rO),(.stmts (fB rO)),(fS kr),0,[], .none, .none, .none, .none,none, .none, .none,0⟩)
noncomputable def TF(P:Params):=co "in_" "JsonDB.in_" 403 45 2 0 0 3 167 .true 181 168 .none (r 169) (r 170) (r 171) 408
noncomputable def TC(P:Params):=ob vF (.func ⟨"in_", "JsonDB.in_",(fA rO),(.stmts (fB rO)),(fS kr),3,[], .none, .none, .none,vD,none,(r 172), .none,0⟩)
noncomputable def TB(P:Params):=ob vT (.seq #[(s "self" 414),(s "task_id" 415)] 0)
noncomputable def aan(P:Params):=ob .none (.func ⟨"remove", "JsonDB.remove",(fA rN),(.stmts (fB rN)),(fS kr),0,[], .none, .none, .none, .none,none, .none, .none,0⟩)
noncomputable def TA(P:Params):=co "remove" "JsonDB.remove" 411 48 2 0 0 3 174 .true 181 175 .none (r 176) (r 177) (r 178) 416
noncomputable def Tz(P:Params):=ob vF (.func ⟨"remove", "JsonDB.remove",(fA rN),(.stmts (fB rN)),(fS kr),3,[], .none, .none, .none,vD,none,(r 179), .none,0⟩)
noncomputable def Tw(P:Params):=ob vT (.seq #[(s "self" 422)] 0)
noncomputable def aam(P:Params):=ob .none (.func ⟨"remove_all", "JsonDB.remove_all",(fA zJ),(.stmts (fB zJ)),(fS nu),0,[], .none, .none, .none, .none,none, .none, .none,0⟩)
noncomputable def Tv(P:Params):=co "remove_all" "JsonDB.remove_all" 419 52 1 0 0 3 181 .true 181 182 .none (r 183) (r 184) (r 185) 423
noncomputable def Tu(P:Params):=ob vF (.func ⟨"remove_all", "JsonDB.remove_all",(fA zJ),(.stmts (fB zJ)),(fS nu),3,[], .none, .none, .none,vD,none,(r 186), .none,0⟩)
noncomputable def Tq(P:Params):=ob vT (.seq #[(s "_db" 426)] 0)
noncomputable def Tp(P:Params):=ob vC (.dict #[eM P 364 vD,eF P 368 (.int 28 367),en P "__init__" 376 (r 145),en P "dump" 383 (r 152),en P "set" 393 (r 159),en P "get" 402 (r 166),en P "in_" 410 (r 173),en P "remove" 418 (r 180),en P "remove_all" 425 (r 187),eS P 427 (r 188),en P "__dict__" 429 (r 191),en P "__weakref__" 431 (r 192),en P "__doc__" 432 .none] 4)
noncomputable def To(P:Params):Obj:=⟨(y "type"),none,(.cls ⟨"JsonDB",[vO],[(r 190),vO],189, "JsonDB", .true,[],[], .false,none, .false⟩),#[none,none,(some (s "JsonDB" 357)),(some (s "JsonDB" 365)),(some (b "object.__new__")),(some (.bool .true))]⟩
noncomputable def Tn(P:Params):=ob vG (.fields #[(s "__dict__" 428),(r 190),(b "function.__dict__"),(b "function.__dict__#set")])
noncomputable def Tj(P:Params):=ob vG (.fields #[(s "__weakref__" 430),(r 190),vW, .none])
noncomputable def aal(P:Params):=ob (y "super") (.fields #[(r 190),(r 190),(r 190)])
noncomputable def aak(P:Params):=ob vB (.fields #[vI,(r 190)])
noncomputable def aaj(P:Params):=ob vC (.dict ((((fX P).take 20).set 0 (en P "__name__" 165 vD)).toArray) 20)
noncomputable def aai(P:Params):=ob .none (.fields (((fW P).take 33).toArray))
noncomputable def aah(P:Params):=ob vC (.dict #[eM P 442 vD,en P "__qualname__" 444 (s "FileChangedChecker" 443),eF P 446 (.int 54 445),en P "name" 448 (s "FileChangedChecker" 447),en P "__init__" 456 (r 208),en P "exists" 464 (r 215),en P "info" 472 (r 222),en P "check_modified" 482 (r 229),en P "get_state" 491 (r 236),eS P 493 (r 237)] 10)
noncomputable def aag(P:Params):=ob .none (.fields #[(i 57),(i 4),(r 207),(i 60),(i 4),(r 214),(i 63),(i 4),(r 221),(i 68),(i 4),(r 228),(i 71),(i 4),(r 235)])
noncomputable def aaf(P:Params):=co "FileChangedChecker" "FileChangedChecker" 437 54 0 0 0 0 198 .false 181 199 .none .none .none .none 440
noncomputable def aae(P:Params):Obj:=⟨(y "frame"),none, .plain,#[(some (r 200)),(some (r 3)),(some (r 197)),none,(some vD),none,(some (r 0))]⟩
noncomputable def Ti(P:Params):=ob vT (.seq #[(s "self" 452),(s "files" 453)] 0)
noncomputable def aad(P:Params):=ob .none (fq "__init__" "FileChangedChecker.__init__" zI 0 .none .none)
noncomputable def Th(P:Params):=co "__init__" "FileChangedChecker.__init__" 449 57 2 0 0 3 202 .true 181 203 .none (r 204) (r 205) (r 206) 454
noncomputable def Tf(P:Params):=ob vF (fq "__init__" "FileChangedChecker.__init__" zI 3 vD (r 207))
noncomputable def Te(P:Params):=ob vT (.seq #[(s "self" 460),(s "file_path" 461)] 0)
noncomputable def aac(P:Params):=ob .none (fq "exists" "FileChangedChecker.exists" J5 0 .none .none)
noncomputable def Td(P:Params):=co "exists" "FileChangedChecker.exists" 457 60 2 0 0 3 209 .true 181 210 .none (r 211) (r 212) (r 213) 462
noncomputable def Tc(P:Params):=ob vF (fq "exists" "FileChangedChecker.exists" J5 3 vD (r 214))
noncomputable def Tb(P:Params):=ob vT (.seq #[(s "self" 468),(s "file_path" 469)] 0)
noncomputable def aab(P:Params):=ob .none (fq "info" "FileChangedChecker.info" J4 0 .none .none)
noncomputable def Ta(P:Params):=co "info" "FileChangedChecker.info" 465 63 2 0 0 3 216 .true 181 217 .none (r 218) (r 219) (r 220) 470
noncomputable def S9(P:Params):=ob vF (fq "info" "FileChangedChecker.info" J4 3 vD (r 221))
noncomputable def S8(P:Params):=ob vT (.seq #[(s "self" 476),(s "file_path" 477),(s "file_stat" 478),(s "state" 479)] 0)
noncomputable def aaa(P:Params):=ob .none (fq "check_modified" "FileChangedChecker.check_modified" J3 0 .none .none)
noncomputable def S7(P:Params):=co "check_modified" "FileChangedChecker.check_modified" 473 68 4 0 0 3 223 .true 181 224 .none (r 225) (r 226) (r 227) 480
noncomputable def S6(P:Params):=ob vF (fq "check_modified" "FileChangedChecker.check_modified" J3 3 vD (r 228))
noncomputable def S5(P:Params):=ob vT (.seq #[(s "self" 486),(s "dep" 487),(s "current_state" 488)] 0)
noncomputable def Z9(P:Params):=ob .none (fq "get_state" "FileChangedChecker.get_state" J2 0 .none .none)
noncomputable def S4(P:Params):=co "get_state" "FileChangedChecker.get_state" 483 71 3 0 0 3 230 .true 181 231 .none (r 232) (r 233) (r 234) 489
noncomputable def S3(P:Params):=ob vF (fq "get_state" "FileChangedChecker.get_state" J2 3 vD (r 235))
noncomputable def S2(P:Params):=ob vT (.seq #[(s "files" 492)] 0)
noncomputable def S0(P:Params):=ob vC (.dict #[eM P 442 vD,eF P 446 (.int 54 445),en P "name" 448 (s "FileChangedChecker" 447),en P "__init__" 456 (r 208),en P "exists" 464 (r 215),en P "info" 472 (r 222),en P "check_modified" 482 (r 229),en P "get_state" 491 (r 236),eS P 493 (r 237),en P "__dict__" 495 (r 240),en P "__weakref__" 497 (r 241),en P "__doc__" 498 .none] 4)
noncomputable def Z8(P:Params):Obj:=⟨(y "type"),none,(.cls ⟨"FileChangedChecker",[vO],[(r 239),vO],238, "FileChangedChecker", .true,[],[], .false,none, .false⟩),(JR P).toArray⟩
noncomputable def SY(P:Params):=ob vG (.fields #[(s "__dict__" 494),(r 239),(b "function.__dict__"),(b "function.__dict__#set")])
noncomputable def SW(P:Params):=ob vG (.fields #[(s "__weakref__" 496),(r 239),vW, .none])
noncomputable def Z7(P:Params):=ob (y "super") (.fields #[(r 239),(r 239),(r 239)])
noncomputable def Z6(P:Params):=ob vB (.fields #[vI,(r 239)])
noncomputable def Z5(P:Params):=ob vC (.dict ((((fX P).take 21).set 0 (en P "__name__" 165 vD)).toArray) 21)
noncomputable def Z4(P:Params):=ob .none (.fields (((fW P).take 36).toArray))
noncomputable def SV(P:Params):Obj:=⟨(y "type"),none,(.cls ⟨"FileChangedChecker",[vO],[(r 239),vO],238, "FileChangedChecker", .true,[],[(r 267)], .false,none, .false⟩),((JR P).take 6).toArray⟩
noncomputable def SU(P:Params):=ob vT (.seq #[(r 239)] 0)
noncomputable def Z3(P:Params):=ob vC (.dict #[eM P 508 vD,en P "__qualname__" 510 (s "MD5Checker" 509),eF P 512 (.int 73 511),en P "name" 514 (s "MD5Checker" 513),en P "check_modified" 527 (r 257),en P "get_state" 539 (r 264),eS P 540 (r 265)] 7)
noncomputable def Z2(P:Params):=ob .none (.fields #[(i 76),(i 4),(r 256),(i 84),(i 4),(r 263)])
noncomputable def Z1(P:Params):=co "MD5Checker" "MD5Checker" 503 73 0 0 0 0 247 .false 181 248 .none .none .none .none 506
noncomputable def Z0(P:Params):Obj:=⟨(y "frame"),none, .plain,#[(some (r 249)),(some (r 3)),(some (r 246)),none,(some vD),none,(some (r 0))]⟩
noncomputable def SS(P:Params):=ob vT (.seq #[(s "self" 518),(s "file_path" 519),(s "file_stat" 520),(s "state" 521),(s "timestamp" 522),(s "size" 523),(s "file_md5" 524)] 0)
noncomputable def ZZ(P:Params):=ob .none (fq "check_modified" "MD5Checker.check_modified" JZ 0 .none .none)
noncomputable def SR(P:Params):=co "check_modified" "MD5Checker.check_modified" 515 76 4 0 0 3 251 .true 181 252 .none (r 253) (r 254) (r 255) 525
noncomputable def SQ(P:Params):=ob vF (fq "check_modified" "MD5Checker.check_modified" JZ 3 vD (r 256))
noncomputable def SP(P:Params):=ob vT (.seq #[(s "self" 531),(s "dep" 532),(s "current_state" 533),(s "timestamp" 534),(s "size" 535),(s "md5" 536)] 0)
noncomputable def ZY(P:Params):=ob .none (fq "get_state" "MD5Checker.get_state" JY 0 .none .none)
noncomputable def SO(P:Params):=co "get_state" "MD5Checker.get_state" 528 84 3 0 0 3 258 .true 181 259 .none (r 260) (r 261) (r 262) 537
noncomputable def SN(P:Params):=ob vF (fq "get_state" "MD5Checker.get_state" JY 3 vD (r 263))
noncomputable def SM(P:Params):=ob vC (.dict #[eM P 508 vD,eF P 512 (.int 73 511),en P "name" 514 (s "MD5Checker" 513),en P "check_modified" 527 (r 257),en P "get_state" 539 (r 264),eS P 540 (r 265),en P "__doc__" 541 .none] 2)
noncomputable def SK(P:Params):Obj:=⟨(y "type"),none,(.cls ⟨"MD5Checker",[(r 239)],[(r 267),(r 239),vO],266, "MD5Checker", .true,[],[], .false,none, .false⟩),#[(some (r 244)),none,(some (s "MD5Checker" 501)),(some (s "MD5Checker" 509)),(some (b "object.__new__")),(some (.bool .true))]⟩
noncomputable def ZX(P:Params):=ob (y "super") (.fields #[(r 267),(r 267),(r 267)])
noncomputable def ZW(P:Params):=ob vB (.fields #[vI,(r 267)])
noncomputable def ZV(P:Params):=ob vC (.dict ((((fX P).take 22).set 0 (en P "__name__" 165 vD)).toArray) 22)
noncomputable def ZU(P:Params):=ob .none (.fields (((fW P).take 39).toArray))
noncomputable def ZT(P:Params):=ob vC (.dict #[eM P 551 vD,en P "__qualname__" 553 (s "DependencyStatus" 552),eF P 555 (.int 91 554),en P "__init__" 563 (r 283),en P "add_reason" 574 (r 291),en P "set_reason" 583 (r 298),en P "get_error_message" 590 (r 305),eS P 595 (r 306)] 8)
noncomputable def ZS(P:Params):=ob .none (.fields #[(i 93),(i 4),(r 282),(i 99),(i 4),(r 290),(i 107),(i 4),(r 297),(i 113),(i 4),(r 304)])
noncomputable def ZR(P:Params):=co "DependencyStatus" "DependencyStatus" 546 91 0 0 0 0 273 .false 181 274 .none .none .none .none 549
noncomputable def ZQ(P:Params):Obj:=⟨(y "frame"),none, .plain,#[(some (r 275)),(some (r 3)),(some (r 272)),none,(some vD),none,(some (r 0))]⟩
noncomputable def SJ(P:Params):=ob vT (.seq #[(s "self" 559),(s "get_log" 560)] 0)
noncomputable def ZP(P:Params):=ob .none (fq "__init__" "DependencyStatus.__init__" zH 0 .none .none)
noncomputable def SI(P:Params):=co "__init__" "DependencyStatus.__init__" 556 93 2 0 0 3 277 .true 181 278 .none (r 279) (r 280) (r 281) 561
noncomputable def SG(P:Params):=ob vF (fq "__init__" "DependencyStatus.__init__" zH 3 vD (r 282))
noncomputable def SF(P:Params):=ob vT (.seq #[(s "run" 564)] 0)
noncomputable def SD(P:Params):=ob vT (.seq #[(s "self" 568),(s "reason" 569),(s "arg" 570),(s "status" 571)] 0)
noncomputable def ZO(P:Params):=ob .none (fq "add_reason" "DependencyStatus.add_reason" rM 0 .none .none)
noncomputable def Sz(P:Params):=co "add_reason" "DependencyStatus.add_reason" 565 99 4 0 0 3 285 .true 181 286 .none (r 287) (r 288) (r 289) 572
noncomputable def Sy(P:Params):=ob vF (.func ⟨"add_reason", "DependencyStatus.add_reason",(fA rM),(.stmts (fB rM)),(fS rM),3,[],(r 284), .none, .none,vD,none,(r 290), .none,0⟩)
noncomputable def Sw(P:Params):=ob vT (.seq #[(s "self" 578),(s "reason" 579),(s "arg" 580)] 0)
noncomputable def ZN(P:Params):=ob .none (fq "set_reason" "DependencyStatus.set_reason" JX 0 .none .none)
noncomputable def Sv(P:Params):=co "set_reason" "DependencyStatus.set_reason" 575 107 3 0 0 3 292 .true 181 293 .none (r 294) (r 295) (r 296) 581
noncomputable def Su(P:Params):=ob vF (fq "set_reason" "DependencyStatus.set_reason" JX 3 vD (r 297))
noncomputable def Ss(P:Params):=ob vT (.seq #[(s "self" 587)] 0)
noncomputable def ZM(P:Params):=ob .none (.func ⟨"get_error_message", "DependencyStatus.get_error_message",(fA zG),(.stmts (fB zG)),(fS nu),0,[], .none, .none, .none, .none,none, .none, .none,0⟩)
noncomputable def Sr(P:Params):=co "get_error_message" "DependencyStatus.get_error_message" 584 113 1 0 0 3 299 .true 181 300 .none (r 301) (r 302) (r 303) 588
noncomputable def Sq(P:Params):=ob vF (.func ⟨"get_error_message", "DependencyStatus.get_error_message",(fA zG),(.stmts (fB zG)),(fS nu),3,[], .none, .none, .none,vD,none,(r 304), .none,0⟩)
noncomputable def So(P:Params):=ob vT (.seq #[(s "error_reason" 591),(s "get_log" 592),(s "reasons" 593),(s "status" 594)] 0)
noncomputable def Sn(P:Params):=ob vC (.dict #[eM P 551 vD,eF P 555 (.int 91 554),en P "__init__" 563 (r 283),en P "add_reason" 574 (r 291),en P "set_reason" 583 (r 298),en P "get_error_message" 590 (r 305),eS P 595 (r 306),en P "__dict__" 597 (r 309),en P "__weakref__" 599 (r 310),en P "__doc__" 600 .none] 4)
noncomputable def Sm(P:Params):Obj:=⟨(y "type"),none,(.cls ⟨"DependencyStatus",[vO],[(r 308),vO],307, "DependencyStatus", .true,[],[], .false,none, .false⟩),#[none,none,(some (s "DependencyStatus" 544)),(some (s "DependencyStatus" 552)),(some (b "object.__new__")),(some (.bool .true))]⟩
noncomputable def Sl(P:Params):=ob vG (.fields #[(s "__dict__" 596),(r 308),(b "function.__dict__"),(b "function.__dict__#set")])
noncomputable def Sk(P:Params):=ob vG (.fields #[(s "__weakref__" 598),(r 308),vW, .none])
noncomputable def ZL(P:Params):=ob (y "super") (.fields #[(r 308),(r 308),(r 308)])
noncomputable def ZK(P:Params):=ob vB (.fields #[vI,(r 308)])
noncomputable def ZJ(P:Params):=ob vC (.dict ((((fX P).take 23).set 0 (en P "__name__" 165 vD)).toArray) 23)
noncomputable def ZI(P:Params):=ob .none (.fields (((fW P).take 42).toArray))
noncomputable def ZH(P:Params):=ob vC (.dict ((JQ P).toArray) 19)
noncomputable def ZG(P:Params):=ob .none (.fields ((JP P).toArray))
noncomputable def ZF(P:Params):=co "Dependency" "Dependency" 605 115 0 0 0 0 316 .false 181 317 .none .none .none .none 608
noncomputable def ZE(P:Params):Obj:=⟨(y "frame"),none, .plain,#[(some (r 318)),(some (r 3)),(some (r 315)),none,(some vD),none,(some (r 0))]⟩
noncomputable def Sj(P:Params):=ob vT (.seq #[(s "self" 618),(s "backend" 619),(s "checker" 620)] 0)
noncomputable def ZD(P:Params):=ob .none (fq "__init__" "Dependency.__init__" zE 0 .none .none)
noncomputable def Si(P:Params):=co "__init__" "Dependency.__init__" 615 117 3 0 0 3 320 .true 181 321 .none (r 322) (r 323) (r 324) 621
noncomputable def Sh(P:Params):=ob vF (fq "__init__" "Dependency.__init__" zE 3 vD (r 325))
noncomputable def Sg(P:Params):=ob vT (.seq #[(s "self" 627),(s "task_id" 628),(s "dependency" 629),(s "value" 630)] 0)
noncomputable def ZC(P:Params):=ob .none (fq "_set" "Dependency._set" rL 0 .none .none)
noncomputable def Sf(P:Params):=co "_set" "Dependency._set" 624 122 4 0 0 3 327 .true 181 328 .none (r 329) (r 330) (r 331) 631
noncomputable def Se(P:Params):=ob vF (fq "_set" "Dependency._set" rL 3 vD (r 332))
noncomputable def Sd(P:Params):=ob vT (.seq #[(s "self" 637),(s "task_id" 638),(s "dependency" 639)] 0)
noncomputable def ZA(P:Params):=ob .none (.func ⟨"_get", "Dependency._get",(fA rK),(.stmts (fB rK)),(fS nt),0,[], .none, .none, .none, .none,none, .none, .none,0⟩)
noncomputable def Sa(P:Params):=co "_get" "Dependency._get" 634 125 3 0 0 3 334 .true 181 335 .none (r 336) (r 337) (r 338) 640
noncomputable def R9(P:Params):=ob vF (.func ⟨"_get", "Dependency._get",(fA rK),(.stmts (fB rK)),(fS nt),3,[], .none, .none, .none,vD,none,(r 339), .none,0⟩)
noncomputable def R8(P:Params):=ob vT (.seq #[(s "self" 646),(s "task_id" 647)] 0)
noncomputable def Zz(P:Params):=ob .none (.func ⟨"remove", "Dependency.remove",(fA rJ),(.stmts (fB rJ)),(fS kr),0,[], .none, .none, .none, .none,none, .none, .none,0⟩)
noncomputable def R7(P:Params):=co "remove" "Dependency.remove" 643 128 2 0 0 3 341 .true 181 342 .none (r 343) (r 344) (r 345) 648
noncomputable def R6(P:Params):=ob vF (.func ⟨"remove", "Dependency.remove",(fA rJ),(.stmts (fB rJ)),(fS kr),3,[], .none, .none, .none,vD,none,(r 346), .none,0⟩)
noncomputable def R5(P:Params):=ob vT (.seq #[(s "self" 654)] 0)
noncomputable def Zy(P:Params):=ob .none (fq "remove_all" "Dependency.remove_all" nu 0 .none .none)
noncomputable def R4(P:Params):=co "remove_all" "Dependency.remove_all" 651 131 1 0 0 3 348 .true 181 349 .none (r 350) (r 351) (r 352) 655
noncomputable def R1(P:Params):=ob vF (fq "remove_all" "Dependency.remove_all" nu 3 vD (r 353))
noncomputable def RZ(P:Params):=ob vT (.seq #[(s "self" 661),(s "task_id" 662)] 0)
noncomputable def Zx(P:Params):=ob .none (fq "_in" "Dependency._in" kr 0 .none .none)
noncomputable def RY(P:Params):=co "_in" "Dependency._in" 658 134 2 0 0 3 355 .true 181 356 .none (r 357) (r 358) (r 359) 663
noncomputable def RX(P:Params):=ob vF (fq "_in" "Dependency._in" kr 3 vD (r 360))
noncomputable def RW(P:Params):=ob vT (.seq #[(s "self" 669)] 0)
noncomputable def Zw(P:Params):=ob .none (.func ⟨"close", "Dependency.close",(fA zD),(.stmts (fB zD)),(fS kq),0,[], .none, .none, .none, .none,none, .none, .none,0⟩)
noncomputable def RV(P:Params):=co "close" "Dependency.close" 666 137 1 0 0 3 362 .true 181 363 .none (r 364) (r 365) (r 366) 670
noncomputable def RU(P:Params):=ob vF (.func ⟨"close", "Dependency.close",(fA zD),(.stmts (fB zD)),(fS kq),3,[], .none, .none, .none,vD,none,(r 367), .none,0⟩)
noncomputable def Hz(P:Params):=ob vT (.seq #[.none] 0)
noncomputable def RT(P:Params):=ob vT (.seq #[(s "self" 676),(s "task" 677),(s "result_hash" 678),(s "dep" 679),(s "state" 680)] 0)
noncomputable def Zv(P:Params):=ob .none (fq "save_success" "Dependency.save_success" rH 0 .none .none)
noncomputable def RQ(P:Params):=co "save_success" "Dependency.save_success" 673 142 3 0 0 3 370 .true 181 371 .none (r 372) (r 373) (r 374) 681
noncomputable def RP(P:Params):=ob vF (.func ⟨"save_success", "Dependency.save_success",(fA rH),(.stmts (fB rH)),(fS rH),3,[],(r 369), .none, .none,vD,none,(r 375), .none,0⟩)
noncomputable def RO(P:Params):=ob vT (.seq #[(s "self" 687),(s "task_name" 688),(s "values" 689)] 0)
noncomputable def Zu(P:Params):=ob .none (fq "get_values" "Dependency.get_values" zC 0 .none .none)
noncomputable def RN(P:Params):=co "get_values" "Dependency.get_values" 684 158 2 0 0 3 377 .true 181 378 .none (r 379) (r 380) (r 381) 690
noncomputable def RM(P:Params):=ob vF (fq "get_values" "Dependency.get_values" zC 3 vD (r 382))
noncomputable def RL(P:Params):=ob vT (.seq #[(s "self" 696),(s "task_id" 697),(s "key_name" 698),(s "values" 699),(s "msg" 700)] 0)
noncomputable def Zt(P:Params):=ob .none (fq "get_value" "Dependency.get_value" iR 0 .none .none)
noncomputable def RK(P:Params):=co "get_value" "Dependency.get_value" 693 162 3 0 0 3 384 .true 181 385 .none (r 386) (r 387) (r 388) 701
noncomputable def RJ(P:Params):=ob vF (fq "get_value" "Dependency.get_value" iR 3 vD (r 389))
noncomputable def RI(P:Params):=ob vT (.seq #[(s "self" 707),(s "task_name" 708)] 0)
noncomputable def Zs(P:Params):=ob .none (fq "get_result" "Dependency.get_result" tD 0 .none .none)
noncomputable def RH(P:Params):=co "get_result" "Dependency.get_result" 704 171 2 0 0 3 391 .true 181 392 .none (r 393) (r 394) (r 395) 709
noncomputable def RG(P:Params):=ob vF (fq "get_result" "Dependency.get_result" tD 3 vD (r 396))
noncomputable def RF(P:Params):=ob vT (.seq #[(s "self" 715),(s "task" 716)] 0)
noncomputable def Zr(P:Params):=ob .none (.func ⟨"remove_success", "Dependency.remove_success",(fA mW),(.stmts (fB mW)),(fS rD),0,[], .none, .none, .none, .none,none, .none, .none,0⟩)
noncomputable def RE(P:Params):=co "remove_success" "Dependency.remove_success" 712 174 2 0 0 3 398 .true 181 399 .none (r 400) (r 401) (r 402) 717
noncomputable def RD(P:Params):=ob vF (.func ⟨"remove_success", "Dependency.remove_success",(fA mW),(.stmts (fB mW)),(fS rD),3,[], .none, .none, .none,vD,none,(r 403), .none,0⟩)
noncomputable def RC(P:Params):=ob vT (.seq #[(s "self" 723),(s "task" 724)] 0)
noncomputable def Zq(P:Params):=ob .none (.func ⟨"ignore", "Dependency.ignore",(fA tC),(.stmts (fB tC)),(fS tB),0,[], .none, .none, .none, .none,none, .none, .none,0⟩)
noncomputable def RB(P:Params):=co "ignore" "Dependency.ignore" 720 177 2 0 0 3 405 .true 181 406 .none (r 407) (r 408) (r 409) 725
noncomputable def RA(P:Params):=ob vF (.func ⟨"ignore", "Dependency.ignore",(fA tC),(.stmts (fB tC)),(fS tB),3,[], .none, .none, .none,vD,none,(r 410), .none,0⟩)
noncomputable def Rz(P:Params):=ob vT (.seq #[(s "self" 731),(s "task" 732)] 0)
noncomputable def Zp(P:Params):=ob .none (fq "status_is_ignore" "Dependency.status_is_ignore" tB 0 .none .none)
noncomputable def Ry(P:Params):=co "status_is_ignore" "Dependency.status_is_ignore" 728 180 2 0 0 3 412 .true 181 413 .none (r 414) (r 415) (r 416) 733
noncomputable def Rx(P:Params):=ob vF (fq "status_is_ignore" "Dependency.status_is_ignore" tB 3 vD (r 417))
noncomputable def Hy(P:Params):=ob vT (.seq #[(.bool .false)] 0)
noncomputable def Zo(P:Params):=ob .none (fq "get_status" "Dependency.get_status" mV 0 .none .none)
noncomputable def Rw(P:Params):=co "get_status" "Dependency.get_status" 736 183 4 0 0 3 420 .true 181 421 .none .none .none (r 422) 739
noncomputable def Rv(P:Params):=ob vF (.func ⟨"get_status", "Dependency.get_status",(fA mV),(.stmts (fB mV)),(fS mV),3,[],(r 419), .none, .none,vD,none,(r 423), .none,0⟩)
noncomputable def Ru(P:Params):=ob vT (.seq #[(s "_closed" 742),(s "backend" 743),(s "checker" 744)] 0)
noncomputable def Rr(P:Params):=ob vC (.dict #[eM P 610 vD,eF P 614 (.int 115 613),en P "__init__" 623 (r 326),en P "_set" 633 (r 333),en P "_get" 642 (r 340),en P "remove" 650 (r 347),en P "remove_all" 657 (r 354),en P "_in" 665 (r 361),en P "close" 672 (r 368),en P "save_success" 683 (r 376),en P "get_values" 692 (r 383),en P "get_value" 703 (r 390),en P "get_result" 711 (r 397),en P "remove_success" 719 (r 404),en P "ignore" 727 (r 411),en P "status_is_ignore" 735 (r 418),en P "get_status" 741 (r 424),eS P 745 (r 425),en P "__dict__" 747 (r 428),en P "__weakref__" 749 (r 429),en P "__doc__" 750 .none] 4)
noncomputable def Rq(P:Params):Obj:=⟨(y "type"),none,(.cls ⟨"Dependency",[vO],[(r 427),vO],426, "Dependency", .true,[],[], .false,none, .false⟩),#[none,none,(some (s "Dependency" 603)),(some (s "Dependency" 611)),(some (b "object.__new__")),(some (.bool .true))]⟩
noncomputable def Ro(P:Params):=ob vG (.fields #[(s "__dict__" 746),(r 427),(b "function.__dict__"),(b "function.__dict__#set")])
noncomputable def Rn(P:Params):=ob vG (.fields #[(s "__weakref__" 748),(r 427),vW, .none])
noncomputable def Zn(P:Params):=ob (y "super") (.fields #[(r 427),(r 427),(r 427)])
noncomputable def Zm(P:Params):=ob vB (.fields #[vI,(r 427)])
noncomputable def af5(P:Params):=ob vC (.dict (((JQ P).take 13).toArray) 13)
noncomputable def af3(P:Params):=ob .none (.fields (((JP P).take 33).toArray))
noncomputable def Zl(P:Params):=ob vC (.dict ((((fX P).take 24).set 0 (en P "__name__" 165 vK)).toArray) 24)
noncomputable def Zk(P:Params):=ob .none (.fields (((fW P).take 45).toArray))
noncomputable def Zj(P:Params):=ob vC (.dict #[eM P 760 vD,en P "__qualname__" 762 (s "UptodateCalculator" 761),eF P 764 (.int 241 763),en P "__init__" 771 (r 445),en P "setup" 780 (r 452),en P "get_val" 789 (r 459),eS P 792 (r 460)] 7)
noncomputable def Zi(P:Params):=ob .none (.fields #[(i 243),(i 4),(r 444),(i 247),(i 4),(r 451),(i 251),(i 4),(r 458)])
noncomputable def Zh(P:Params):=co "UptodateCalculator" "UptodateCalculator" 755 241 0 0 0 0 435 .false 181 436 .none .none .none .none 758
noncomputable def Zg(P:Params):Obj:=⟨(y "frame"),none, .plain,#[(some (r 437)),(some (r 3)),(some (r 434)),none,(some vD),none,(some (r 0))]⟩
noncomputable def Rm(P:Params):=ob vT (.seq #[(s "self" 768)] 0)
noncomputable def Zf(P:Params):=ob .none (.func ⟨"__init__", "UptodateCalculator.__init__",(fA zA),(.stmts (fB zA)),(fS kq),0,[], .none, .none, .none, .none,none, .none, .none,0⟩)
noncomputable def Rl(P:Params):=co "__init__" "UptodateCalculator.__init__" 765 243 1 0 0 3 439 .true 181 440 .none (r 441) (r 442) (r 443) 769
noncomputable def Rk(P:Params):=ob vF (.func ⟨"__init__", "UptodateCalculator.__init__",(fA zA),(.stmts (fB zA)),(fS kq),3,[], .none, .none, .none,vD,none,(r 444), .none,0⟩)
noncomputable def Rj(P:Params):=ob vT (.seq #[(s "self" 775),(s "dep_manager" 776),(s "tasks_dict" 777)] 0)
noncomputable def Ze(P:Params):=ob .none (fq "setup" "UptodateCalculator.setup" zz 0 .none .none)
noncomputable def Ri(P:Params):=co "setup" "UptodateCalculator.setup" 772 247 3 0 0 3 446 .true 181 447 .none (r 448) (r 449) (r 450) 778
noncomputable def Rh(P:Params):=ob vF (fq "setup" "UptodateCalculator.setup" zz 3 vD (r 451))
noncomputable def Rg(P:Params):=ob vT (.seq #[(s "self" 784),(s "task_id" 785),(s "dependency" 786)] 0)
noncomputable def Zd(P:Params):=ob .none (fq "get_val" "UptodateCalculator.get_val" nt 0 .none .none)
noncomputable def Rf(P:Params):=co "get_val" "UptodateCalculator.get_val" 781 251 3 0 0 3 453 .true 181 454 .none (r 455) (r 456) (r 457) 787
noncomputable def Rd(P:Params):=ob vF (fq "get_val" "UptodateCalculator.get_val" nt 3 vD (r 458))
noncomputable def Rc(P:Params):=ob vT (.seq #[(s "dep_manager" 790),(s "tasks_dict" 791)] 0)
noncomputable def Q9(P:Params):=ob vC (.dict #[eM P 760 vD,eF P 764 (.int 241 763),en P "__init__" 771 (r 445),en P "setup" 780 (r 452),en P "get_val" 789 (r 459),eS P 792 (r 460),en P "__dict__" 794 (r 463),en P "__weakref__" 796 (r 464),en P "__doc__" 797 .none] 4)
noncomputable def Q8(P:Params):Obj:=⟨(y "type"),none,(.cls ⟨"UptodateCalculator",[vO],[(r 462),vO],461, "UptodateCalculator", .true,[],[], .false,none, .false⟩),(JO P).toArray⟩
noncomputable def Q7(P:Params):=ob vG (.fields #[(s "__dict__" 793),(r 462),(b "function.__dict__"),(b "function.__dict__#set")])
noncomputable def Q6(P:Params):=ob vG (.fields #[(s "__weakref__" 795),(r 462),vW, .none])
noncomputable def Zc(P:Params):=ob (y "super") (.fields #[(r 462),(r 462),(r 462)])
noncomputable def Zb(P:Params):=ob vB (.fields #[vI,(r 462)])
noncomputable def Za(P:Params):=ob vC (.dict ((((fX P).take 25).set 0 (en P "__name__" 165 vK)).toArray) 25)
noncomputable def Y9(P:Params):=ob .none (.fields (((fW P).take 48).toArray))
noncomputable def Y8(P:Params):=ob vC (.dict ((JN P).toArray) 17)
noncomputable def Y7(P:Params):=ob .none (.fields ((JM P).toArray))
noncomputable def Y6(P:Params):=co "Task" "Task" 804 254 0 0 0 0 470 .false 181 471 .none .none .none .none 807
noncomputable def Y5(P:Params):Obj:=⟨(y "frame"),none, .plain,#[(some (r 472)),(some (r 3)),(some (r 469)),none,(some vK),none,(some (r 0))]⟩
noncomputable def Q5(P:Params):=ob vT (.seq #[(r 474),(r 475),(r 476),(r 477),(r 478),(r 479), .none,(.bool .false), .none] 0)
noncomputable def Q3(P:Params):=ob vT (.seq #[(s "self" 817),(s "name" 818),(s "actions" 819),(s "file_dep" 820),(s "targets" 821),(s "task_dep" 822),(s "uptodate" 823),(s "calc_dep" 824),(s "setup" 825),(s "subtask_of" 826),(s "has_subtask" 827),(s "getargs" 828)] 0)
noncomputable def Y4(P:Params):=ob .none (fq "__init__" "Task.__init__" rG 0 .none .none)
noncomputable def Q2(P:Params):=co "__init__" "Task.__init__" 814 256 12 0 0 3 481 .true 181 482 .none (r 483) (r 484) (r 485) 829
noncomputable def Q1(P:Params):=ob vF (.func ⟨"__init__", "Task.__init__",(fA rG),(.stmts (fB rG)),(fS rG),3,[],(r 480), .none, .none,vK,none,(r 486), .none,0⟩)
noncomputable def Q0(P:Params):=ob vT (.seq #[(s "self" 835),(s "file_dep" 836),(s "task_dep" 837),(s "calc_dep" 838)] 0)
noncomputable def Y3(P:Params):=ob .none (fq "_init_deps" "Task._init_deps" zy 0 .none .none)
noncomputable def QZ(P:Params):=co "_init_deps" "Task._init_deps" 832 281 4 0 0 3 488 .true 181 489 .none (r 490) (r 491) (r 492) 839
noncomputable def QY(P:Params):=ob vF (fq "_init_deps" "Task._init_deps" zy 3 vK (r 493))
noncomputable def QX(P:Params):=ob vT (.seq #[(s "self" 845),(s "items" 846),(s "targets" 847),(s "target" 848)] 0)
noncomputable def Y2(P:Params):=ob .none (fq "_init_targets" "Task._init_targets" zx 0 .none .none)
noncomputable def QW(P:Params):=co "_init_targets" "Task._init_targets" 842 293 2 0 0 3 495 .true 181 496 .none (r 497) (r 498) (r 499) 849
noncomputable def QV(P:Params):=ob vF (fq "_init_targets" "Task._init_targets" zx 3 vK (r 500))
noncomputable def QU(P:Params):=ob vT (.seq #[(s "self" 855),(s "items" 856),(s "uptodate" 857),(s "item" 858)] 0)
noncomputable def Y1(P:Params):=ob .none (fq "_init_uptodate" "Task._init_uptodate" zw 0 .none .none)
noncomputable def QT(P:Params):=co "_init_uptodate" "Task._init_uptodate" 852 302 2 0 0 3 502 .true 181 503 .none (r 504) (r 505) (r 506) 859
noncomputable def QS(P:Params):=ob vF (fq "_init_uptodate" "Task._init_uptodate" zw 3 vK (r 507))
noncomputable def QR(P:Params):=ob vT (.seq #[(s "self" 865),(s "file_dep" 866),(s "dep" 867)] 0)
noncomputable def Y0(P:Params):=ob .none (fq "_expand_file_dep" "Task._expand_file_dep" zv 0 .none .none)
noncomputable def QQ(P:Params):=co "_expand_file_dep" "Task._expand_file_dep" 862 315 2 0 0 3 509 .true 181 510 .none (r 511) (r 512) (r 513) 868
noncomputable def QP(P:Params):=ob vF (fq "_expand_file_dep" "Task._expand_file_dep" zv 3 vK (r 514))
noncomputable def QO(P:Params):=ob vT (.seq #[(s "self" 874),(s "task_dep" 875),(s "dep" 876)] 0)
noncomputable def YZ(P:Params):=ob .none (fq "_expand_task_dep" "Task._expand_task_dep" zu 0 .none .none)
noncomputable def QN(P:Params):=co "_expand_task_dep" "Task._expand_task_dep" 871 323 2 0 0 3 516 .true 181 517 .none (r 518) (r 519) (r 520) 877
noncomputable def QM(P:Params):=ob vF (fq "_expand_task_dep" "Task._expand_task_dep" zu 3 vK (r 521))
noncomputable def QL(P:Params):=ob vT (.seq #[(s "self" 883),(s "calc_dep" 884),(s "dep" 885)] 0)
noncomputable def YY(P:Params):=ob .none (fq "_expand_calc_dep" "Task._expand_calc_dep" JW 0 .none .none)
noncomputable def QK(P:Params):=co "_expand_calc_dep" "Task._expand_calc_dep" 880 330 2 0 0 3 523 .true 181 524 .none (r 525) (r 526) (r 527) 886
noncomputable def QJ(P:Params):=ob vF (fq "_expand_calc_dep" "Task._expand_calc_dep" JW 3 vK (r 528))
noncomputable def QI(P:Params):=ob vT (.seq #[(s "self" 892),(s "uptodate" 893)] 0)
noncomputable def YX(P:Params):=ob .none (fq "_extend_uptodate" "Task._extend_uptodate" JV 0 .none .none)
noncomputable def QH(P:Params):=co "_extend_uptodate" "Task._extend_uptodate" 889 335 2 0 0 3 530 .true 181 531 .none (r 532) (r 533) (r 534) 894
noncomputable def QG(P:Params):=ob vF (fq "_extend_uptodate" "Task._extend_uptodate" JV 3 vK (r 535))
noncomputable def QF(P:Params):=ob vT (.seq #[(s "self" 900),(s "deps" 901)] 0)
noncomputable def YW(P:Params):=ob .none (fq "update_deps" "Task.update_deps" JU 0 .none .none)
noncomputable def QE(P:Params):=co "update_deps" "Task.update_deps" 897 338 2 0 0 3 537 .true 181 538 .none (r 539) (r 540) (r 541) 902
noncomputable def QD(P:Params):=ob vF (fq "update_deps" "Task.update_deps" JU 3 vK (r 542))
noncomputable def QC(P:Params):=ob vT (.seq #[(s "self" 908),(s "args" 909)] 0)
noncomputable def YV(P:Params):=ob .none (fq "init_options" "Task.init_options" rF 0 .none .none)
noncomputable def QB(P:Params):=co "init_options" "Task.init_options" 905 341 2 0 0 3 545 .true 181 546 .none (r 547) (r 548) (r 549) 910
noncomputable def QA(P:Params):=ob vF (.func ⟨"init_options", "Task.init_options",(fA rF),(.stmts (fB rF)),(fS rF),3,[],(r 544), .none, .none,vK,none,(r 550), .none,0⟩)
noncomputable def YU(P:Params):=ob .none (fq "_init_getargs" "Task._init_getargs" tA 0 .none .none)
noncomputable def Qz(P:Params):=co "_init_getargs" "Task._init_getargs" 913 346 1 0 0 3 552 .true 181 553 .none .none .none (r 554) 916
noncomputable def Qy(P:Params):=ob vF (fq "_init_getargs" "Task._init_getargs" tA 3 vK (r 555))
noncomputable def Qx(P:Params):=ob vT (.seq #[(s "self" 922),(s "dep" 923),(s "dep_task" 924)] 0)
noncomputable def YT(P:Params):=ob .none (fq "save_extra_values" "Task.save_extra_values" tx 0 .none .none)
noncomputable def Qw(P:Params):=co "save_extra_values" "Task.save_extra_values" 919 356 1 0 0 3 557 .true 181 558 .none (r 559) (r 560) (r 561) 925
noncomputable def Qv(P:Params):=ob vF (fq "save_extra_values" "Task.save_extra_values" tx 3 vK (r 562))
noncomputable def Qu(P:Params):=ob vT (.seq #[(s "self" 931),(s "stream" 932),(s "word" 933),(s "result" 934),(s "values" 935)] 0)
noncomputable def YS(P:Params):=ob .none (fq "execute" "Task.execute" tw 0 .none .none)
noncomputable def Qt(P:Params):=co "execute" "Task.execute" 928 360 2 0 0 3 564 .true 181 565 .none (r 566) (r 567) (r 568) 936
noncomputable def Qs(P:Params):=ob vF (fq "execute" "Task.execute" tw 3 vK (r 569))
noncomputable def Qr(P:Params):=ob vT (.seq #[(s "actions" 939),(s "calc_dep" 940),(s "dep_changed" 941),(s "executed" 942),(s "file_dep" 943),(s "getargs" 944),(s "has_subtask" 945),(s "name" 946),(s "options" 947),(s "result" 948),(s "setup_tasks" 949),(s "subtask_of" 950),(s "targets" 951),(s "task_dep" 952),(s "uptodate" 953),(s "value_savers" 954),(s "values" 955),(s "wild_dep" 956)] 0)
noncomputable def Qq(P:Params):=ob vC (.dict #[eM P 809 vK,eF P 813 (.int 254 812),en P "__init__" 831 (r 487),en P "_init_deps" 841 (r 494),en P "_init_targets" 851 (r 501),en P "_init_uptodate" 861 (r 508),en P "_expand_file_dep" 870 (r 515),en P "_expand_task_dep" 879 (r 522),en P "_expand_calc_dep" 888 (r 529),en P "_extend_uptodate" 896 (r 536),en P "update_deps" 904 (r 543),en P "init_options" 912 (r 551),en P "_init_getargs" 918 (r 556),en P "save_extra_values" 927 (r 563),en P "execute" 938 (r 570),eS P 957 (r 571),en P "__dict__" 959 (r 574),en P "__weakref__" 961 (r 575),en P "__doc__" 962 .none] 4)
noncomputable def Qp(P:Params):Obj:=⟨(y "type"),none,(.cls ⟨"Task",[vO],[(r 573),vO],572, "Task", .true,[],[], .false,none, .false⟩),#[none,none,(some (s "Task" 802)),(some (s "Task" 810)),(some (b "object.__new__")),(some (.bool .true))]⟩
noncomputable def Qo(P:Params):=ob vG (.fields #[(s "__dict__" 958),(r 573),(b "function.__dict__"),(b "function.__dict__#set")])
noncomputable def Qn(P:Params):=ob vG (.fields #[(s "__weakref__" 960),(r 573),vW, .none])
noncomputable def YR(P:Params):=ob (y "super") (.fields #[(r 573),(r 573),(r 573)])
noncomputable def YQ(P:Params):=ob vB (.fields #[vI,(r 573)])
noncomputable def afT(P:Params):=ob vC (.dict (((JN P).take 12).toArray) 12)
noncomputable def afS(P:Params):=ob .none (.fields (((JM P).take 30).toArray))
noncomputable def YO(P:Params):=ob vC (.dict ((((fX P).take 26).set 0 (en P "__name__" 165 vK)).toArray) 26)
noncomputable def YN(P:Params):=ob .none (.fields (((fW P).take 51).toArray))
noncomputable def Qm(P:Params):Obj:=⟨(y "type"),none,(.cls ⟨"UptodateCalculator",[vO],[(r 462),vO],461, "UptodateCalculator", .true,[],[(r 630)], .false,none, .false⟩),((JO P).take 6).toArray⟩
noncomputable def Ql(P:Params):=ob vT (.seq #[(r 462)] 0)
noncomputable def YM(P:Params):=ob vC (.dict #[eM P 972 vK,en P "__qualname__" 974 (s "result_dep" 973),eF P 976 (.int 370 975),en P "__init__" 985 (r 592),en P "configure_task" 993 (r 599),en P "_result_single" 1000 (r 606),en P "_result_group" 1011 (r 613),en P "_get_dep_result" 1020 (r 620),en P "tell" 1032 (r 627),eS P 1036 (r 628)] 10)
noncomputable def YL(P:Params):=ob .none (.fields #[(i 372),(i 4),(r 591),(i 377),(i 4),(r 598),(i 383),(i 4),(r 605),(i 386),(i 4),(r 612),(i 394),(i 4),(r 619),(i 401),(i 4),(r 626)])
noncomputable def YK(P:Params):=co "result_dep" "result_dep" 967 370 0 0 0 0 581 .false 181 582 .none .none .none .none 970
noncomputable def YJ(P:Params):Obj:=⟨(y "frame"),none, .plain,#[(some (r 583)),(some (r 3)),(some (r 580)),none,(some vK),none,(some (r 0))]⟩
noncomputable def Qk(P:Params):=ob vT (.seq #[(s "self" 980),(s "dep_task_name" 981),(s "setup_dep" 982)] 0)
noncomputable def YI(P:Params):=ob .none (fq "__init__" "result_dep.__init__" rE 0 .none .none)
noncomputable def Qj(P:Params):=co "__init__" "result_dep.__init__" 977 372 3 0 0 3 586 .true 181 587 .none (r 588) (r 589) (r 590) 983
noncomputable def Qi(P:Params):=ob vF (.func ⟨"__init__", "result_dep.__init__",(fA rE),(.stmts (fB rE)),(fS rE),3,[],(r 585), .none, .none,vK,none,(r 591), .none,0⟩)
noncomputable def Qh(P:Params):=ob vT (.seq #[(s "self" 989),(s "task" 990)] 0)
noncomputable def YH(P:Params):=ob .none (fq "configure_task" "result_dep.configure_task" rD 0 .none .none)
noncomputable def Qg(P:Params):=co "configure_task" "result_dep.configure_task" 986 377 2 0 0 3 593 .true 181 594 .none (r 595) (r 596) (r 597) 991
noncomputable def Qf(P:Params):=ob vF (fq "configure_task" "result_dep.configure_task" rD 3 vK (r 598))
noncomputable def Qe(P:Params):=ob vT (.seq #[(s "self" 997)] 0)
noncomputable def YG(P:Params):=ob .none (fq "_result_single" "result_dep._result_single" kq 0 .none .none)
noncomputable def Qd(P:Params):=co "_result_single" "result_dep._result_single" 994 383 1 0 0 3 600 .true 181 601 .none (r 602) (r 603) (r 604) 998
noncomputable def Qc(P:Params):=ob vF (fq "_result_single" "result_dep._result_single" kq 3 vK (r 605))
noncomputable def Qb(P:Params):=ob vT (.seq #[(s "self" 1004),(s "dep_task" 1005),(s "prefix" 1006),(s "sub_tasks" 1007),(s "sub" 1008)] 0)
noncomputable def YF(P:Params):=ob .none (fq "_result_group" "result_dep._result_group" zt 0 .none .none)
noncomputable def Qa(P:Params):=co "_result_group" "result_dep._result_group" 1001 386 2 0 0 3 607 .true 181 608 .none (r 609) (r 610) (r 611) 1009
noncomputable def P9(P:Params):=ob vF (fq "_result_group" "result_dep._result_group" zt 3 vK (r 612))
noncomputable def P8(P:Params):=ob vT (.seq #[(s "self" 1015),(s "dep_task" 1016),(s "dep_result" 1017)] 0)
noncomputable def YE(P:Params):=ob .none (fq "_get_dep_result" "result_dep._get_dep_result" zr 0 .none .none)
noncomputable def P7(P:Params):=co "_get_dep_result" "result_dep._get_dep_result" 1012 394 2 0 0 3 614 .true 181 615 .none (r 616) (r 617) (r 618) 1018
noncomputable def P6(P:Params):=ob vF (fq "_get_dep_result" "result_dep._get_dep_result" zr 3 vK (r 619))
noncomputable def P5(P:Params):=ob vT (.seq #[(s "self" 1024),(s "task" 1025),(s "values" 1026),(s "dep_task" 1027),(s "dep_result" 1028),(s "last_success" 1029)] 0)
noncomputable def YD(P:Params):=ob .none (fq "tell" "result_dep.tell" zq 0 .none .none)
noncomputable def P4(P:Params):=co "tell" "result_dep.tell" 1021 401 3 0 0 3 621 .true 181 622 .none (r 623) (r 624) (r 625) 1030
noncomputable def P2(P:Params):=ob vF (fq "tell" "result_dep.tell" zq 3 vK (r 626))
noncomputable def P1(P:Params):=ob vT (.seq #[(s "dep_name" 1033),(s "result_name" 1034),(s "setup_dep" 1035)] 0)
noncomputable def P0(P:Params):=ob vC (.dict #[eM P 972 vK,eF P 976 (.int 370 975),en P "__init__" 985 (r 592),en P "configure_task" 993 (r 599),en P "_result_single" 1000 (r 606),en P "_result_group" 1011 (r 613),en P "_get_dep_result" 1020 (r 620),en P "tell" 1032 (r 627),eS P 1036 (r 628),en P "__doc__" 1037 .none] 2)
noncomputable def PZ(P:Params):Obj:=⟨(y "type"),none,(.cls ⟨"result_dep",[(r 462)],[(r 630),(r 462),vO],629, "result_dep", .true,[],[], .false,none, .false⟩),#[(some (r 578)),none,(some (s "result_dep" 965)),(some (s "result_dep" 973)),(some (b "object.__new__")),(some (.bool .true))]⟩
noncomputable def YC(P:Params):=ob (y "super") (.fields #[(r 630),(r 630),(r 630)])
noncomputable def YB(P:Params):=ob vB (.fields #[vI,(r 630)])
noncomputable def PY(P:Params):=ob vC (.dict ((fX P).toArray) 38)
noncomputable def YA(P:Params):=ob .none (.fields ((fW P).toArray))
noncomputable def PX(P:Params):=ob vT (.seq #[(s "G:1" 1042),(s "G:2" 1043),(s "G:3" 1044)] 0)
noncomputable def PW(P:Params):=ob vT (.seq #[(s "M" 1046),(s "G:1" 1047),(s "G:2" 1048),(s "G:3" 1049),(s "Gx" 1050),(s "U" 1051),(s "V" 1052)] 0)
noncomputable def PU(P:Params):=ob vT (.seq #[(s "q" 1057)] 0)
noncomputable def Yz(P:Params):=ob .none (fo "_law_result" Og 0 .none .none)
noncomputable def PS(P:Params):=co "_law_result" "_law_result" 1054 412 1 0 0 3 635 .true 181 636 .none (r 637) (r 638) (r 639) 1058
noncomputable def PQ(P:Params):=ob vF (fo "_law_result" Og 3 (s "law_lf0006_01" 1040) (r 640))
noncomputable def PO(P:Params):=ob vT (.seq #[(s "subs" 1064)] 0)
noncomputable def Yy(P:Params):=ob .none (fo "_law_group" Of 0 .none .none)
noncomputable def PN(P:Params):=co "_law_group" "_law_group" 1061 416 1 0 0 3 642 .true 181 643 .none (r 644) (r 645) (r 646) 1065
noncomputable def PM(P:Params):=ob vF (fo "_law_group" Of 3 (s "law_lf0006_01" 1040) (r 647))
noncomputable def PL(P:Params):=ob vT (.seq #[(s "name" 1071),(s "actions" 1072)] 0)
noncomputable def Yx(P:Params):=ob .none (fo "_law_consumer" Oe 0 .none .none)
noncomputable def PK(P:Params):=co "_law_consumer" "_law_consumer" 1068 418 2 0 0 3 649 .true 181 650 .none (r 651) (r 652) (r 653) 1073
noncomputable def PJ(P:Params):=ob vF (fo "_law_consumer" Oe 3 (s "law_lf0006_01" 1040) (r 654))
noncomputable def Yw(P:Params):=ob .none (fo "_law_now" Od 0 .none .none)
noncomputable def PI(P:Params):=co "_law_now" "_law_now" 1076 422 3 0 0 3 656 .true 181 657 .none .none .none (r 658) 1079
noncomputable def PH(P:Params):=ob vF (fo "_law_now" Od 3 (s "law_lf0006_01" 1040) (r 659))
noncomputable def Yv(P:Params):=ob .none (fo "_law_told" Oc 0 .none .none)
noncomputable def PG(P:Params):=co "_law_told" "_law_told" 1082 426 4 0 0 3 661 .true 181 662 .none .none .none (r 663) 1085
noncomputable def PF(P:Params):=ob vF (fo "_law_told" Oc 3 (s "law_lf0006_01" 1040) (r 664))
noncomputable def PD(P:Params):=ob vT (.seq #[(s "manager" 1091),(s "results" 1092),(s "values" 1093),(s "name" 1094),(s "q" 1095),(s "mark" 1096),(s "result" 1097),(s "own" 1098),(s "task" 1099)] 0)
noncomputable def Yu(P:Params):=ob .none (fo "_law_make" Ob 0 .none .none)
noncomputable def PC(P:Params):=co "_law_make" "_law_make" 1088 431 6 0 0 3 666 .true 181 667 .none (r 668) (r 669) (r 670) 1100
noncomputable def PB(P:Params):=ob vF (fo "_law_make" Ob 3 (s "law_lf0006_01" 1040) (r 671))
noncomputable def PA(P:Params):=ob vT (.seq #[(s "manager" 1106),(s "tasks" 1107),(s "name" 1108),(s "results" 1109),(s "values" 1110),(s "subs" 1111),(s "kept" 1112),(s "q" 1113),(s "between" 1114),(s "task" 1115),(s "status" 1116),(s "good" 1117)] 0)
noncomputable def Yt(P:Params):=ob .none (fo "_law_end" B2 0 .none .none)
noncomputable def Pz(P:Params):=co "_law_end" "_law_end" 1103 444 9 0 0 3 673 .true 181 674 .none (r 675) (r 676) (r 677) 1118
noncomputable def Py(P:Params):=ob vF (fo "_law_end" B2 3 (s "law_lf0006_01" 1040) (r 678))
noncomputable def Ys(P:Params):=ob .none (fo "_law_ask" Nx 0 .none .none)
noncomputable def Px(P:Params):=co "_law_ask" "_law_ask" 1121 457 7 0 0 3 680 .true 181 681 .none .none .none (r 682) 1124
noncomputable def Pw(P:Params):=ob vF (fo "_law_ask" Nx 3 (s "law_lf0006_01" 1040) (r 683))
noncomputable def Pu(P:Params):=ob vT (.seq #[(s "manager" 1130),(s "results" 1131),(s "values" 1132),(s "name" 1133),(s "got" 1134),(s "found" 1135),(s "good" 1136)] 0)
noncomputable def Yr(P:Params):=ob .none (fo "_law_reads" qh 0 .none .none)
noncomputable def Pt(P:Params):=co "_law_reads" "_law_reads" 1127 470 4 0 0 3 685 .true 181 686 .none (r 687) (r 688) (r 689) 1137
noncomputable def Pr(P:Params):=ob vF (fo "_law_reads" qh 3 (s "law_lf0006_01" 1040) (r 690))
noncomputable def Yq(P:Params):=ob .none (fo "law" FN 0 .none .none)
noncomputable def Pq(P:Params):=co "law" "law" 1140 481 1 0 0 3 692 .true 181 693 .none .none .none (r 694) 1143
noncomputable def Po(P:Params):=ob vF (fo "law" FN 3 (s "law_lf0006_01" 1040) (r 695))
noncomputable def V1(l:List Obj)(b:Bool):List Obj:=List.rec (motive:=fun _=>Bool->List Obj) (fun _=>[]) (fun x _ e b=>cond b (x::e false) (e true)) l b
noncomputable def bt(n:Nat):List Obj->BT:=Nat.rec (fun _=> .nil) (fun _ e l=>List.casesOn l .nil fun x r=> .node x (e (V1 r true)) (e (V1 r false))) n
noncomputable def gl:List (Params->Obj):=[boot_o_0,boot_o_1,Uh,PY,boot_o_4,boot_o_5,boot_o_6,boot_o_7,boot_o_8,boot_o_9,boot_o_10,aC,YA,o45,o46,aC,cL,o54,aC,o56,o57,o58,NT,xh,o61,aC,cL,o64,o65,aC,o67,o68,o69,o70,o71,aC,xh,o76,aC,o78,o79,o80,aC,cL,o83,aC,o85,o86,o87,aC,cL,o90,aC,o92,o93,o94,o95,o96,Up,o98,o99,abc,abb,Uo,xh,aa8,aC,cL,aa7,aa6,aC,Un,Uk,aa4,aa3,HA,xh,aaZ,aC,cL,aaY,aaX,aC,Um,Ul,aaW,aaV,HA,xh,aaS,aC,cL,aaR,aaQ,aC,Uj,Ui,aaP,aaO,NT,xh,aaL,aC,cL,aaK,aaJ,aC,Ug,Ue,Ud,aaI,aaH,NT,xh,aaG,aC,cL,aaF,aaE,aC,Uc,Ub,Ua,aaD,aaC,aC,cL,TZ,aC,aaz,TY,TX,aC,xh,aaw,aC,aav,aau,aat,aC,cL,TV,aC,aas,TU,TS,aC,cL,TR,aC,aar,TQ,TO,aC,cL,TN,aC,aaq,TM,TL,aC,cL,TK,aC,aap,TJ,TH,aC,cL,TG,aC,aao,TF,TC,aC,cL,TB,aC,aan,TA,Tz,aC,cL,Tw,aC,aam,Tv,Tu,Tq,Tp,To,Tn,Tj,aal,aak,aC,xh,aah,aC,aag,aaf,aae,aC,cL,Ti,aC,aad,Th,Tf,aC,cL,Te,aC,aac,Td,Tc,aC,cL,Tb,aC,aab,Ta,S9,aC,cL,S8,aC,aaa,S7,S6,aC,cL,S5,aC,Z9,S4,S3,S2,S0,SV,SY,SW,Z7,Z6,SU,xh,Z3,aC,Z2,Z1,Z0,aC,cL,SS,aC,ZZ,SR,SQ,aC,cL,SP,aC,ZY,SO,SN,aC,SM,SK,ZX,ZW,aC,xh,ZT,aC,ZS,ZR,ZQ,aC,cL,SJ,aC,ZP,SI,SG,SF,aC,cL,SD,aC,ZO,Sz,Sy,aC,cL,Sw,aC,ZN,Sv,Su,aC,cL,Ss,aC,ZM,Sr,Sq,So,Sn,Sm,Sl,Sk,ZL,ZK,aC,xh,ZH,aC,ZG,ZF,ZE,aC,cL,Sj,aC,ZD,Si,Sh,aC,cL,Sg,aC,ZC,Sf,Se,aC,cL,Sd,aC,ZA,Sa,R9,aC,cL,R8,aC,Zz,R7,R6,aC,cL,R5,aC,Zy,R4,R1,aC,cL,RZ,aC,Zx,RY,RX,aC,cL,RW,aC,Zw,RV,RU,Hz,aC,cL,RT,aC,Zv,RQ,RP,aC,cL,RO,aC,Zu,RN,RM,aC,cL,RL,aC,Zt,RK,RJ,aC,cL,RI,aC,Zs,RH,RG,aC,cL,RF,aC,Zr,RE,RD,aC,cL,RC,aC,Zq,RB,RA,aC,cL,Rz,aC,Zp,Ry,Rx,Hy,aC,cL,Zo,Rw,Rv,Ru,Rr,Rq,Ro,Rn,Zn,Zm,aC,xh,Zj,aC,Zi,Zh,Zg,aC,cL,Rm,aC,Zf,Rl,Rk,aC,cL,Rj,aC,Ze,Ri,Rh,aC,cL,Rg,aC,Zd,Rf,Rd,Rc,Q9,Qm,Q7,Q6,Zc,Zb,aC,xh,Y8,aC,Y7,Y6,Y5,aC,aC,aC,aC,aC,aC,Q5,aC,cL,Q3,aC,Y4,Q2,Q1,aC,cL,Q0,aC,Y3,QZ,QY,aC,cL,QX,aC,Y2,QW,QV,aC,cL,QU,aC,Y1,QT,QS,aC,cL,QR,aC,Y0,QQ,QP,aC,cL,QO,aC,YZ,QN,QM,aC,cL,QL,aC,YY,QK,QJ,aC,cL,QI,aC,YX,QH,QG,aC,cL,QF,aC,YW,QE,QD,Hz,aC,cL,QC,aC,YV,QB,QA,aC,cL,YU,Qz,Qy,aC,cL,Qx,aC,YT,Qw,Qv,aC,cL,Qu,aC,YS,Qt,Qs,Qr,Qq,Qp,Qo,Qn,YR,YQ,Ql,xh,YM,aC,YL,YK,YJ,Hy,aC,cL,Qk,aC,YI,Qj,Qi,aC,cL,Qh,aC,YH,Qg,Qf,aC,cL,Qe,aC,YG,Qd,Qc,aC,cL,Qb,aC,YF,Qa,P9,aC,cL,P8,aC,YE,P7,P6,aC,cL,P5,aC,YD,P4,P2,P1,P0,PZ,YC,YB,PX,PW,aC,cL,PU,aC,Yz,PS,PQ,aC,cL,PO,aC,Yy,PN,PM,aC,cL,PL,aC,Yx,PK,PJ,aC,cL,Yw,PI,PH,aC,cL,Yv,PG,PF,aC,cL,PD,aC,Yu,PC,PB,aC,cL,PA,aC,Yt,Pz,Py,aC,cL,Ys,Px,Pw,aC,cL,Pu,aC,Yr,Pt,Pr,aC,cL,Yq,Pq,Po]
noncomputable def bL(P:Params)(l:List (Params->Obj)):BT:=bt 11 (l.map fun f=>f P)
noncomputable def NO(P:Params):BT:=bL P ((((gl.take 15).set 2 boot_o_2).set 3 boot_o_3).set 12 cL)
noncomputable def OI(P:Params):BT:=bL P ((((gl.take 35).set 2 Rt).set 3 o50).set 12 o51)
noncomputable def CG(P:Params):BT:=bL P (((((gl.take 63).set 2 Rt).set 3 o72).set 12 o73).set 58 o97)
noncomputable def CF(P:Params):BT:=bL P (((((gl.take 75).set 2 Rt).set 3 aba).set 12 aa9).set 72 aa5)
noncomputable def CE(P:Params):BT:=bL P (((((gl.take 87).set 2 Rt).set 3 aa2).set 12 aa1).set 72 aa0)
noncomputable def CD(P:Params):BT:=bL P ((((gl.take 99).set 2 Rt).set 3 aaU).set 12 aaT)
noncomputable def CC(P:Params):BT:=bL P (((gl.take 125).set 3 aaN).set 12 aaM)
noncomputable def CB(P:Params):BT:=bL P (((gl.take 132).set 3 aaB).set 12 aaA)
noncomputable def CA(P:Params):BT:=bL P (((gl.take 195).set 3 aay).set 12 aax)
noncomputable def Cz(P:Params):BT:=bL P ((((gl.take 244).set 3 aaj).set 12 aai).set 239 Z8)
noncomputable def Cy(P:Params):BT:=bL P (((gl.take 270).set 3 Z5).set 12 Z4)
noncomputable def Cw(P:Params):BT:=bL P (((gl.take 313).set 3 ZV).set 12 ZU)
noncomputable def Cv(P:Params):BT:=bL P (((gl.take 432).set 3 ZJ).set 12 ZI)
noncomputable def Cu(P:Params):BT:=bL P ((((gl.take 467).set 3 Zl).set 12 Zk).set 462 Q8)
noncomputable def Ct(P:Params):BT:=bL P ((((gl.take 578).set 3 Za).set 12 Y9).set 462 Q8)
noncomputable def Cs(P:Params):BT:=bL P (((gl.take 633).set 3 YO).set 12 YN)
noncomputable def GF(P:Params):BT:=bL P gl
noncomputable def h46(P:Params):Heap:=⟨((((gl.take 15).set 2 boot_o_2).set 3 boot_o_3).set 12 cL |>.map fun f=>f P).toArray,⟨[],[],[],0,[],[], .false,#[],[],0, .false, .false, .false,0,[2000,10,10], .false,0, .true,[],[],0, .false⟩⟩
noncomputable def HX(P:Params):Heap:=⟨(gl.map fun f=>f P).toArray,⟨[],[],[],0,[],[], .false,#[],[],0, .false, .false, .false,0,[2000,10,10], .false,0, .true,[],[],0, .false⟩⟩
noncomputable def WL:List Stmt:=[T0,T1,T2]
noncomputable def NQ:List Stmt:=[T3]
noncomputable def uh:List Stmt:=[T4]
noncomputable def qk:List Stmt:=[T5]
noncomputable def nA:List Stmt:=[T6,T7]
noncomputable def lA:List Stmt:=[T8,T9]
noncomputable def jT:List Stmt:=[Oi]
noncomputable def iT:List Stmt:=[Iy]
noncomputable def hO:List Stmt:=[Ny]
noncomputable def gE:List Stmt:=[Xj]
noncomputable def fZ:List Stmt:=[Oh]
noncomputable def fF:List Stmt:=[wd]
noncomputable def eR:List Stmt:=[Wl,T17]
noncomputable def eh:List Stmt:=[yb]
noncomputable def dB:List Stmt:=[JT]
noncomputable def dj:List Stmt:=[T20,T21,T22,Og,Of,Oe,Od,Oc,Ob,B2,Nx,qh,FN]
noncomputable def E:Env:=⟨PR.main.scope,mainNs,mainNs,[],Str.empty,none, .ref 13,some 14,0⟩
def C:Code:= .body (behindTheImports PR) E
def B:List Frame:=[topFrame ⟨0,0,0,0⟩]
def Sx(t:Params->BT)(n toks:Nat)(w:World)(os:OsState):SharedT:=⟨t w.params,n,{},#[],{},toks,os⟩
def Hx(h:Params->Heap)(toks:Nat)(w:World)(os:OsState):Shared:={heap:=h w.params,toks:=toks,os:=os}
theorem p72(w:World):(fun os=>segRunT treeTable PR w 11 (some (r 6)) 1 235 (Sx NO 15 187 w os) (piecesOf WL E C ⟨0,0,0,0⟩ B))=fun os=>some (Flow.next,(Sx OI 35 216 w os),C,⟨5,0,6,8⟩):=by
 rw [PySem.W.Fast.te10110043849684766642,PySem.W.Fast.te14364793385576792824];kernel_rfl
theorem Yj(w:World):(fun os=>segRunT treeTable PR w 11 (some (r 6)) 1 264 (Sx OI 35 216 w os) (piecesOf NQ E C ⟨5,0,6,8⟩ B))=fun os=>some (Flow.next,(Sx CG 63 254 w os),C,⟨7,0,14,16⟩):=by
 rw [PySem.W.Fast.te10110043849684766642,PySem.W.Fast.te14364793385576792824];kernel_rfl
theorem Yi(w:World):(fun os=>segRunT treeTable PR w 11 (some (r 6)) 1 223 (Sx CG 63 254 w os) (piecesOf uh E C ⟨7,0,14,16⟩ B))=fun os=>some (Flow.next,(Sx CF 75 272 w os),C,⟨15,0,16,21⟩):=by
 rw [PySem.W.Fast.te10110043849684766642,PySem.W.Fast.te14364793385576792824];kernel_rfl
theorem Yh(w:World):(fun os=>segRunT treeTable PR w 11 (some (r 6)) 1 237 (Sx CF 75 272 w os) (piecesOf qk E C ⟨15,0,16,21⟩ B))=fun os=>some (Flow.next,(Sx CE 87 290 w os),C,⟨17,0,18,23⟩):=by
 rw [PySem.W.Fast.te10110043849684766642,PySem.W.Fast.te14364793385576792824];kernel_rfl
theorem Yg(w:World):(fun os=>segRunT treeTable PR w 11 (some (r 6)) 1 246 (Sx CE 87 290 w os) (piecesOf nA E C ⟨17,0,18,23⟩ B))=fun os=>some (Flow.next,(Sx CD 99 310 w os),C,⟨21,0,21,8⟩):=by
 rw [PySem.W.Fast.te10110043849684766642,PySem.W.Fast.te14364793385576792824];kernel_rfl
theorem Yf(w:World):(fun os=>segRunT treeTable PR w 11 (some (r 6)) 1 393 (Sx CD 99 310 w os) (piecesOf lA E C ⟨21,0,21,8⟩ B))=fun os=>some (Flow.next,(Sx CC 125 350 w os),C,⟨24,0,25,8⟩):=by
 rw [PySem.W.Fast.te10110043849684766642,PySem.W.Fast.te14364793385576792824];kernel_rfl
theorem Ye(w:World):(fun os=>segRunT treeTable PR w 11 (some (r 6)) 1 30 (Sx CC 125 350 w os) (piecesOf jT E C ⟨24,0,25,8⟩ B))=fun os=>some (Flow.next,(Sx CB 132 357 w os),C,⟨26,0,27,21⟩):=by
 rw [PySem.W.Fast.te10110043849684766642,PySem.W.Fast.te14364793385576792824];kernel_rfl
theorem Yd(w:World):(fun os=>segRunT treeTable PR w 11 (some (r 6)) 1 416 (Sx CB 132 357 w os) (piecesOf iT E C ⟨26,0,27,21⟩ B))=fun os=>some (Flow.next,(Sx CA 195 435 w os),C,⟨28,0,53,16⟩):=by
 rw [PySem.W.Fast.te10110043849684766642,PySem.W.Fast.te14364793385576792824];kernel_rfl
theorem Yc(w:World):(fun os=>segRunT treeTable PR w 11 (some (r 6)) 1 364 (Sx CA 195 435 w os) (piecesOf hO E C ⟨28,0,53,16⟩ B))=fun os=>some (Flow.next,(Sx Cz 244 501 w os),C,⟨54,0,72,35⟩):=by
 rw [PySem.W.Fast.te10110043849684766642,PySem.W.Fast.te14364793385576792824];kernel_rfl
theorem Yb(w:World):(fun os=>segRunT treeTable PR w 11 (some (r 6)) 1 296 (Sx Cz 244 501 w os) (piecesOf gE E C ⟨54,0,72,35⟩ B))=fun os=>some (Flow.next,(Sx Cy 270 544 w os),C,⟨73,0,90,37⟩):=by
 rw [PySem.W.Fast.te10110043849684766642,PySem.W.Fast.te14364793385576792824];kernel_rfl
theorem Ya(w:World):(fun os=>segRunT treeTable PR w 11 (some (r 6)) 1 326 (Sx Cy 270 544 w os) (piecesOf fZ E C ⟨73,0,90,37⟩ B))=fun os=>some (Flow.next,(Sx Cw 313 603 w os),C,⟨91,0,114,16⟩):=by
 rw [PySem.W.Fast.te10110043849684766642,PySem.W.Fast.te14364793385576792824];kernel_rfl
theorem X9(w:World):(fun os=>segRunT treeTable PR w 11 (some (r 6)) 1 680 (Sx Cw 313 603 w os) (piecesOf fF E C ⟨91,0,114,16⟩ B))=fun os=>some (Flow.next,(Sx Cv 432 753 w os),C,⟨115,0,240,21⟩):=by
 rw [PySem.W.Fast.te10110043849684766642,PySem.W.Fast.te14364793385576792824];kernel_rfl
theorem X8(w:World):(fun os=>segRunT treeTable PR w 11 (some (r 6)) 1 298 (Sx Cv 432 753 w os) (piecesOf eR E C ⟨115,0,240,21⟩ B))=fun os=>some (Flow.next,(Sx Cu 467 802 w os),C,⟨253,0,253,8⟩):=by
 rw [PySem.W.Fast.te10110043849684766642,PySem.W.Fast.te14364793385576792824];kernel_rfl
theorem X7(w:World):(fun os=>segRunT treeTable PR w 11 (some (r 6)) 1 657 (Sx Cu 467 802 w os) (piecesOf eh E C ⟨253,0,253,8⟩ B))=fun os=>some (Flow.next,(Sx Ct 578 965 w os),C,⟨254,0,369,38⟩):=by
 rw [PySem.W.Fast.te10110043849684766642,PySem.W.Fast.te14364793385576792824];kernel_rfl
theorem X6(w:World):(fun os=>segRunT treeTable PR w 11 (some (r 6)) 1 417 (Sx Ct 578 965 w os) (piecesOf dB E C ⟨254,0,369,38⟩ B))=fun os=>some (Flow.next,(Sx Cs 633 1040 w os),C,⟨370,0,408,41⟩):=by
 rw [PySem.W.Fast.te10110043849684766642,PySem.W.Fast.te14364793385576792824];kernel_rfl
theorem X5(w:World):(fun os=>segRunT treeTable PR w 11 (some (r 6)) 1 344 (Sx Cs 633 1040 w os) (piecesOf dj E C ⟨370,0,408,41⟩ B))=fun os=>some (Flow.next,(Sx GF 697 1146 w os),C,⟨481,0,529,83⟩):=by
 rw [PySem.W.Fast.te10110043849684766642,PySem.W.Fast.te14364793385576792824];kernel_rfl
end
end Mine.H
end
section
namespace Mine.H
open PySem PySem.W PySem.Calls PyProof.Rows
noncomputable section
noncomputable def K(P:Params):Frag:=[(2,Uh P),(3,PY P),(15,aC P),(17,o54 P),(18,aC P),(20,o57 P),(21,o58 P),(22,NT P),(29,aC P),(30,o67 P),(31,o68 P),(32,o69 P),(42,aC P),(44,o83 P),(45,aC P),(47,o86 P),(48,o87 P),(49,aC P),(51,o90 P),(52,aC P),(54,o93 P),(55,o94 P),(56,o95 P),(57,o96 P),(58,Up P),(59,o98 P),(60,o99 P),(63,Uo P),(70,aC P),(71,Un P),(72,Uk P),(75,HA P),(82,aC P),(83,Um P),(84,Ul P),(87,HA P),(94,aC P),(95,Uj P),(96,Ui P),(99,NT P),(106,aC P),(107,Ug P),(108,Ue P),(109,Ud P),(112,NT P),(119,aC P),(120,Uc P),(121,Ub P),(122,Ua P),(125,aC P),(127,TZ P),(128,aC P),(130,TY P),(131,TX P),(139,aC P),(141,TV P),(142,aC P),(144,TU P),(145,TS P),(146,aC P),(148,TR P),(149,aC P),(151,TQ P),(152,TO P),(153,aC P),(155,TN P),(156,aC P),(158,TM P),(159,TL P),(160,aC P),(162,TK P),(163,aC P),(165,TJ P),(166,TH P),(167,aC P),(169,TG P),(170,aC P),(172,TF P),(173,TC P),(174,aC P),(176,TB P),(177,aC P),(179,TA P),(180,Tz P),(181,aC P),(183,Tw P),(184,aC P),(186,Tv P),(187,Tu P),(188,Tq P),(189,Tp P),(190,To P),(191,Tn P),(192,Tj P),(202,aC P),(204,Ti P),(205,aC P),(207,Th P),(208,Tf P),(209,aC P),(211,Te P),(212,aC P),(214,Td P),(215,Tc P),(216,aC P),(218,Tb P),(219,aC P),(221,Ta P),(222,S9 P),(223,aC P),(225,S8 P),(226,aC P),(228,S7 P),(229,S6 P),(230,aC P),(232,S5 P),(233,aC P),(235,S4 P),(236,S3 P),(237,S2 P),(238,S0 P),(239,SV P),(240,SY P),(241,SW P),(244,SU P),(251,aC P),(253,SS P),(254,aC P),(256,SR P),(257,SQ P),(258,aC P),(260,SP P),(261,aC P),(263,SO P),(264,SN P),(265,aC P),(266,SM P),(267,SK P),(277,aC P),(279,SJ P),(280,aC P),(282,SI P),(283,SG P),(284,SF P),(285,aC P),(287,SD P),(288,aC P),(290,Sz P),(291,Sy P),(292,aC P),(294,Sw P),(295,aC P),(297,Sv P),(298,Su P),(299,aC P),(301,Ss P),(302,aC P),(304,Sr P),(305,Sq P),(306,So P),(307,Sn P),(308,Sm P),(309,Sl P),(310,Sk P),(320,aC P),(322,Sj P),(323,aC P),(325,Si P),(326,Sh P),(327,aC P),(329,Sg P),(330,aC P),(332,Sf P),(333,Se P),(334,aC P),(336,Sd P),(337,aC P),(339,Sa P),(340,R9 P),(341,aC P),(343,R8 P),(344,aC P),(346,R7 P),(347,R6 P),(348,aC P),(350,R5 P),(351,aC P),(353,R4 P),(354,R1 P),(355,aC P),(357,RZ P),(358,aC P),(360,RY P),(361,RX P),(362,aC P),(364,RW P),(365,aC P),(367,RV P),(368,RU P),(369,Hz P),(370,aC P),(372,RT P),(373,aC P),(375,RQ P),(376,RP P),(377,aC P),(379,RO P),(380,aC P),(382,RN P),(383,RM P),(384,aC P),(386,RL P),(387,aC P),(389,RK P),(390,RJ P),(391,aC P),(393,RI P),(394,aC P),(396,RH P),(397,RG P),(398,aC P),(400,RF P),(401,aC P),(403,RE P),(404,RD P),(405,aC P),(407,RC P),(408,aC P),(410,RB P),(411,RA P),(412,aC P),(414,Rz P),(415,aC P),(417,Ry P),(418,Rx P),(419,Hy P),(420,aC P),(423,Rw P),(424,Rv P),(425,Ru P),(426,Rr P),(427,Rq P),(428,Ro P),(429,Rn P),(439,aC P),(441,Rm P),(442,aC P),(444,Rl P),(445,Rk P),(446,aC P),(448,Rj P),(449,aC P),(451,Ri P),(452,Rh P),(453,aC P),(455,Rg P),(456,aC P),(458,Rf P),(459,Rd P),(460,Rc P),(461,Q9 P),(462,Qm P),(463,Q7 P),(464,Q6 P),(474,aC P),(475,aC P),(476,aC P),(477,aC P),(478,aC P),(479,aC P),(480,Q5 P),(481,aC P),(483,Q3 P),(484,aC P),(486,Q2 P),(487,Q1 P),(488,aC P),(490,Q0 P),(491,aC P),(493,QZ P),(494,QY P),(495,aC P),(497,QX P),(498,aC P),(500,QW P),(501,QV P),(502,aC P),(504,QU P),(505,aC P),(507,QT P),(508,QS P),(509,aC P),(511,QR P),(512,aC P),(514,QQ P),(515,QP P),(516,aC P),(518,QO P),(519,aC P),(521,QN P),(522,QM P),(523,aC P),(525,QL P),(526,aC P),(528,QK P),(529,QJ P),(530,aC P),(532,QI P),(533,aC P),(535,QH P),(536,QG P),(537,aC P),(539,QF P),(540,aC P),(542,QE P),(543,QD P),(544,Hz P),(545,aC P),(547,QC P),(548,aC P),(550,QB P),(551,QA P),(552,aC P),(555,Qz P),(556,Qy P),(557,aC P),(559,Qx P),(560,aC P),(562,Qw P),(563,Qv P),(564,aC P),(566,Qu P),(567,aC P),(569,Qt P),(570,Qs P),(571,Qr P),(572,Qq P),(573,Qp P),(574,Qo P),(575,Qn P),(578,Ql P),(585,Hy P),(586,aC P),(588,Qk P),(589,aC P),(591,Qj P),(592,Qi P),(593,aC P),(595,Qh P),(596,aC P),(598,Qg P),(599,Qf P),(600,aC P),(602,Qe P),(603,aC P),(605,Qd P),(606,Qc P),(607,aC P),(609,Qb P),(610,aC P),(612,Qa P),(613,P9 P),(614,aC P),(616,P8 P),(617,aC P),(619,P7 P),(620,P6 P),(621,aC P),(623,P5 P),(624,aC P),(626,P4 P),(627,P2 P),(628,P1 P),(629,P0 P),(630,PZ P),(633,PX P),(634,PW P),(635,aC P),(637,PU P),(638,aC P),(640,PS P),(641,PQ P),(642,aC P),(644,PO P),(645,aC P),(647,PN P),(648,PM P),(649,aC P),(651,PL P),(652,aC P),(654,PK P),(655,PJ P),(656,aC P),(659,PI P),(660,PH P),(661,aC P),(664,PG P),(665,PF P),(666,aC P),(668,PD P),(669,aC P),(671,PC P),(672,PB P),(673,aC P),(675,PA P),(676,aC P),(678,Pz P),(679,Py P),(680,aC P),(683,Px P),(684,Pw P),(685,aC P),(687,Pu P),(688,aC P),(690,Pt P),(691,Pr P),(692,aC P),(695,Pq P),(696,Po P)]
noncomputable def KA:List Addr:=[2,3,15,17,18,20,21,22,29,30,31,32,42,44,45,47,48,49,51,52,54,55,56,57,58,59,60,63,70,71,72,75,82,83,84,87,94,95,96,99,106,107,108,109,112,119,120,121,122,125,127,128,130,131,139,141,142,144,145,146,148,149,151,152,153,155,156,158,159,160,162,163,165,166,167,169,170,172,173,174,176,177,179,180,181,183,184,186,187,188,189,190,191,192,202,204,205,207,208,209,211,212,214,215,216,218,219,221,222,223,225,226,228,229,230,232,233,235,236,237,238,239,240,241,244,251,253,254,256,257,258,260,261,263,264,265,266,267,277,279,280,282,283,284,285,287,288,290,291,292,294,295,297,298,299,301,302,304,305,306,307,308,309,310,320,322,323,325,326,327,329,330,332,333,334,336,337,339,340,341,343,344,346,347,348,350,351,353,354,355,357,358,360,361,362,364,365,367,368,369,370,372,373,375,376,377,379,380,382,383,384,386,387,389,390,391,393,394,396,397,398,400,401,403,404,405,407,408,410,411,412,414,415,417,418,419,420,423,424,425,426,427,428,429,439,441,442,444,445,446,448,449,451,452,453,455,456,458,459,460,461,462,463,464,474,475,476,477,478,479,480,481,483,484,486,487,488,490,491,493,494,495,497,498,500,501,502,504,505,507,508,509,511,512,514,515,516,518,519,521,522,523,525,526,528,529,530,532,533,535,536,537,539,540,542,543,544,545,547,548,550,551,552,555,556,557,559,560,562,563,564,566,567,569,570,571,572,573,574,575,578,585,586,588,589,591,592,593,595,596,598,599,600,602,603,605,606,607,609,610,612,613,614,616,617,619,620,621,623,624,626,627,628,629,630,633,634,635,637,638,640,641,642,644,645,647,648,649,651,652,654,655,656,659,660,661,664,665,666,668,669,671,672,673,675,676,678,679,680,683,684,685,687,688,690,691,692,695,696]
theorem qc(P:Params):KA=(K P).map (·.1):=by kernel_rfl
noncomputable def V:Program:={PR with main:={PR.main with body:=[T0,T2,T3,T4,T5,T6,T8,T9,Oi,Iy,Ny,Xj,Oh,wd,Wl,yb,JT,T21,T22,Og,Of,Oe,Od,Oc,Ob,B2,Nx,qh,FN]}}
noncomputable def LO:List Str:=["CatchedException", "BaseFail", "TaskFailed", "TaskError", "FileChangedChecker", "MD5Checker", "Task", "result_dep"]
noncomputable def XT(s:Shared):Bool:=xlAt V [] s&&recOk PySem.Challenge.rw_lf0006_01.row.toRowW.records s
noncomputable def S1(w:World)(os:OsState):Shared:=⟨HX w.params,#[],{},1146,os⟩
theorem pre(w:World):(fun os=>topGo treeTable PR w 11 (some (.ref 6)) 12 ⟨boot_heap w.params,#[],boot_drawn,boot_toks,os⟩ (topStub PR))=fun os=>some (⟨h46 w.params,#[],{},187,os⟩,⟨denote treeTable C,C,⟨0,0,0,0⟩,B⟩):=by rw [PySem.W.Fast.te15667345088766844465,PySem.W.Fast.te14364793385576792824,PySem.W.Fast.te11892475500146522536];kernel_rfl
theorem l5(w:World):(fun os=>segRun treeTable PR w 11 (some (.ref 6)) 1 1 ⟨h46 w.params,#[],{},187,os⟩ (blockOf (behindTheImports PR) E C ⟨0,0,0,0⟩ B))=fun os=>some (Flow.next,(Sx NO 15 187 w os).abs,C,⟨0,0,0,0⟩):=by rw [PySem.W.Fast.te14374325043358763698,PySem.W.Fast.te14364793385576792824];kernel_rfl
theorem fin(w:World):(fun os=>topRun treeTable PR w 11 (some (.ref 6)) 2 (Sx GF 697 1146 w os).abs ⟨doneF Flow.next,C,⟨481,0,529,83⟩,B⟩)=fun os=>some (S1 w os):=by rw [PySem.W.Fast.te14082659384304107361,PySem.W.Fast.te14364793385576792824];kernel_rfl
theorem bEq:behindTheImports PR=(WL++(NQ++(uh++(qk++(nA++(lA++(jT++(iT++(hO++(gE++(fZ++(fF++(eR++(eh++(dB++(dj ++ [])))))))))))))))):=by kernel_rfl
theorem r16(w:World)(os:OsState):topRun treeTable PR w 11 (some (.ref 6)) 2 (Sx GF 697 1146 w os).abs (restOf [] E C ⟨481,0,529,83⟩ B)=some (S1 w os):=congrFun (fin w) os
theorem r15(w:World)(os:OsState):topRun treeTable PR w 11 (some (.ref 6)) 346 (Sx Cs 633 1040 w os).abs (restOf (dj ++ []) E C ⟨370,0,408,41⟩ B)=some (S1 w os):= @piece_app treeTable PR w 11 (some (.ref 6)) E ⟨0,0,0,0⟩ 344 2 (Sx Cs 633 1040 w os).abs (Sx GF 697 1146 w os).abs (S1 w os) dj [] C ⟨370,0,408,41⟩ ⟨481,0,529,83⟩ (segRun_of (congrFun (X5 w) os)) (r16 w os)
theorem r14(w:World)(os:OsState):topRun treeTable PR w 11 (some (.ref 6)) 763 (Sx Ct 578 965 w os).abs (restOf (dB++(dj ++ [])) E C ⟨254,0,369,38⟩ B)=some (S1 w os):= @piece_app treeTable PR w 11 (some (.ref 6)) E ⟨0,0,0,0⟩ 417 346 (Sx Ct 578 965 w os).abs (Sx Cs 633 1040 w os).abs (S1 w os) dB (dj ++ []) C ⟨254,0,369,38⟩ ⟨370,0,408,41⟩ (segRun_of (congrFun (X6 w) os)) (r15 w os)
theorem r13(w:World)(os:OsState):topRun treeTable PR w 11 (some (.ref 6)) 1420 (Sx Cu 467 802 w os).abs (restOf (eh++(dB++(dj ++ []))) E C ⟨253,0,253,8⟩ B)=some (S1 w os):= @piece_app treeTable PR w 11 (some (.ref 6)) E ⟨0,0,0,0⟩ 657 763 (Sx Cu 467 802 w os).abs (Sx Ct 578 965 w os).abs (S1 w os) eh (dB++(dj ++ [])) C ⟨253,0,253,8⟩ ⟨254,0,369,38⟩ (segRun_of (congrFun (X7 w) os)) (r14 w os)
theorem r12(w:World)(os:OsState):topRun treeTable PR w 11 (some (.ref 6)) 1718 (Sx Cv 432 753 w os).abs (restOf (eR++(eh++(dB++(dj ++ [])))) E C ⟨115,0,240,21⟩ B)=some (S1 w os):= @piece_app treeTable PR w 11 (some (.ref 6)) E ⟨0,0,0,0⟩ 298 1420 (Sx Cv 432 753 w os).abs (Sx Cu 467 802 w os).abs (S1 w os) eR (eh++(dB++(dj ++ []))) C ⟨115,0,240,21⟩ ⟨253,0,253,8⟩ (segRun_of (congrFun (X8 w) os)) (r13 w os)
theorem r11(w:World)(os:OsState):topRun treeTable PR w 11 (some (.ref 6)) 2398 (Sx Cw 313 603 w os).abs (restOf (fF++(eR++(eh++(dB++(dj ++ []))))) E C ⟨91,0,114,16⟩ B)=some (S1 w os):= @piece_app treeTable PR w 11 (some (.ref 6)) E ⟨0,0,0,0⟩ 680 1718 (Sx Cw 313 603 w os).abs (Sx Cv 432 753 w os).abs (S1 w os) fF (eR++(eh++(dB++(dj ++ [])))) C ⟨91,0,114,16⟩ ⟨115,0,240,21⟩ (segRun_of (congrFun (X9 w) os)) (r12 w os)
theorem r10(w:World)(os:OsState):topRun treeTable PR w 11 (some (.ref 6)) 2724 (Sx Cy 270 544 w os).abs (restOf (fZ++(fF++(eR++(eh++(dB++(dj ++ [])))))) E C ⟨73,0,90,37⟩ B)=some (S1 w os):= @piece_app treeTable PR w 11 (some (.ref 6)) E ⟨0,0,0,0⟩ 326 2398 (Sx Cy 270 544 w os).abs (Sx Cw 313 603 w os).abs (S1 w os) fZ (fF++(eR++(eh++(dB++(dj ++ []))))) C ⟨73,0,90,37⟩ ⟨91,0,114,16⟩ (segRun_of (congrFun (Ya w) os)) (r11 w os)
theorem r9(w:World)(os:OsState):topRun treeTable PR w 11 (some (.ref 6)) 3020 (Sx Cz 244 501 w os).abs (restOf (gE++(fZ++(fF++(eR++(eh++(dB++(dj ++ []))))))) E C ⟨54,0,72,35⟩ B)=some (S1 w os):= @piece_app treeTable PR w 11 (some (.ref 6)) E ⟨0,0,0,0⟩ 296 2724 (Sx Cz 244 501 w os).abs (Sx Cy 270 544 w os).abs (S1 w os) gE (fZ++(fF++(eR++(eh++(dB++(dj ++ [])))))) C ⟨54,0,72,35⟩ ⟨73,0,90,37⟩ (segRun_of (congrFun (Yb w) os)) (r10 w os)
theorem r8(w:World)(os:OsState):topRun treeTable PR w 11 (some (.ref 6)) 3384 (Sx CA 195 435 w os).abs (restOf (hO++(gE++(fZ++(fF++(eR++(eh++(dB++(dj ++ [])))))))) E C ⟨28,0,53,16⟩ B)=some (S1 w os):= @piece_app treeTable PR w 11 (some (.ref 6)) E ⟨0,0,0,0⟩ 364 3020 (Sx CA 195 435 w os).abs (Sx Cz 244 501 w os).abs (S1 w os) hO (gE++(fZ++(fF++(eR++(eh++(dB++(dj ++ []))))))) C ⟨28,0,53,16⟩ ⟨54,0,72,35⟩ (segRun_of (congrFun (Yc w) os)) (r9 w os)
theorem r7(w:World)(os:OsState):topRun treeTable PR w 11 (some (.ref 6)) 3800 (Sx CB 132 357 w os).abs (restOf (iT++(hO++(gE++(fZ++(fF++(eR++(eh++(dB++(dj ++ []))))))))) E C ⟨26,0,27,21⟩ B)=some (S1 w os):= @piece_app treeTable PR w 11 (some (.ref 6)) E ⟨0,0,0,0⟩ 416 3384 (Sx CB 132 357 w os).abs (Sx CA 195 435 w os).abs (S1 w os) iT (hO++(gE++(fZ++(fF++(eR++(eh++(dB++(dj ++ [])))))))) C ⟨26,0,27,21⟩ ⟨28,0,53,16⟩ (segRun_of (congrFun (Yd w) os)) (r8 w os)
theorem r6(w:World)(os:OsState):topRun treeTable PR w 11 (some (.ref 6)) 3830 (Sx CC 125 350 w os).abs (restOf (jT++(iT++(hO++(gE++(fZ++(fF++(eR++(eh++(dB++(dj ++ [])))))))))) E C ⟨24,0,25,8⟩ B)=some (S1 w os):= @piece_app treeTable PR w 11 (some (.ref 6)) E ⟨0,0,0,0⟩ 30 3800 (Sx CC 125 350 w os).abs (Sx CB 132 357 w os).abs (S1 w os) jT (iT++(hO++(gE++(fZ++(fF++(eR++(eh++(dB++(dj ++ []))))))))) C ⟨24,0,25,8⟩ ⟨26,0,27,21⟩ (segRun_of (congrFun (Ye w) os)) (r7 w os)
theorem r5(w:World)(os:OsState):topRun treeTable PR w 11 (some (.ref 6)) 4223 (Sx CD 99 310 w os).abs (restOf (lA++(jT++(iT++(hO++(gE++(fZ++(fF++(eR++(eh++(dB++(dj ++ []))))))))))) E C ⟨21,0,21,8⟩ B)=some (S1 w os):= @piece_app treeTable PR w 11 (some (.ref 6)) E ⟨0,0,0,0⟩ 393 3830 (Sx CD 99 310 w os).abs (Sx CC 125 350 w os).abs (S1 w os) lA (jT++(iT++(hO++(gE++(fZ++(fF++(eR++(eh++(dB++(dj ++ [])))))))))) C ⟨21,0,21,8⟩ ⟨24,0,25,8⟩ (segRun_of (congrFun (Yf w) os)) (r6 w os)
theorem r4(w:World)(os:OsState):topRun treeTable PR w 11 (some (.ref 6)) 4469 (Sx CE 87 290 w os).abs (restOf (nA++(lA++(jT++(iT++(hO++(gE++(fZ++(fF++(eR++(eh++(dB++(dj ++ [])))))))))))) E C ⟨17,0,18,23⟩ B)=some (S1 w os):= @piece_app treeTable PR w 11 (some (.ref 6)) E ⟨0,0,0,0⟩ 246 4223 (Sx CE 87 290 w os).abs (Sx CD 99 310 w os).abs (S1 w os) nA (lA++(jT++(iT++(hO++(gE++(fZ++(fF++(eR++(eh++(dB++(dj ++ []))))))))))) C ⟨17,0,18,23⟩ ⟨21,0,21,8⟩ (segRun_of (congrFun (Yg w) os)) (r5 w os)
theorem r3(w:World)(os:OsState):topRun treeTable PR w 11 (some (.ref 6)) 4706 (Sx CF 75 272 w os).abs (restOf (qk++(nA++(lA++(jT++(iT++(hO++(gE++(fZ++(fF++(eR++(eh++(dB++(dj ++ []))))))))))))) E C ⟨15,0,16,21⟩ B)=some (S1 w os):= @piece_app treeTable PR w 11 (some (.ref 6)) E ⟨0,0,0,0⟩ 237 4469 (Sx CF 75 272 w os).abs (Sx CE 87 290 w os).abs (S1 w os) qk (nA++(lA++(jT++(iT++(hO++(gE++(fZ++(fF++(eR++(eh++(dB++(dj ++ [])))))))))))) C ⟨15,0,16,21⟩ ⟨17,0,18,23⟩ (segRun_of (congrFun (Yh w) os)) (r4 w os)
theorem r2(w:World)(os:OsState):topRun treeTable PR w 11 (some (.ref 6)) 4929 (Sx CG 63 254 w os).abs (restOf (uh++(qk++(nA++(lA++(jT++(iT++(hO++(gE++(fZ++(fF++(eR++(eh++(dB++(dj ++ [])))))))))))))) E C ⟨7,0,14,16⟩ B)=some (S1 w os):= @piece_app treeTable PR w 11 (some (.ref 6)) E ⟨0,0,0,0⟩ 223 4706 (Sx CG 63 254 w os).abs (Sx CF 75 272 w os).abs (S1 w os) uh (qk++(nA++(lA++(jT++(iT++(hO++(gE++(fZ++(fF++(eR++(eh++(dB++(dj ++ []))))))))))))) C ⟨7,0,14,16⟩ ⟨15,0,16,21⟩ (segRun_of (congrFun (Yi w) os)) (r3 w os)
theorem r1(w:World)(os:OsState):topRun treeTable PR w 11 (some (.ref 6)) 5193 (Sx OI 35 216 w os).abs (restOf (NQ++(uh++(qk++(nA++(lA++(jT++(iT++(hO++(gE++(fZ++(fF++(eR++(eh++(dB++(dj ++ []))))))))))))))) E C ⟨5,0,6,8⟩ B)=some (S1 w os):= @piece_app treeTable PR w 11 (some (.ref 6)) E ⟨0,0,0,0⟩ 264 4929 (Sx OI 35 216 w os).abs (Sx CG 63 254 w os).abs (S1 w os) NQ (uh++(qk++(nA++(lA++(jT++(iT++(hO++(gE++(fZ++(fF++(eR++(eh++(dB++(dj ++ [])))))))))))))) C ⟨5,0,6,8⟩ ⟨7,0,14,16⟩ (segRun_of (congrFun (Yj w) os)) (r2 w os)
theorem r0(w:World)(os:OsState):topRun treeTable PR w 11 (some (.ref 6)) 5428 (Sx NO 15 187 w os).abs (restOf (WL++(NQ++(uh++(qk++(nA++(lA++(jT++(iT++(hO++(gE++(fZ++(fF++(eR++(eh++(dB++(dj ++ [])))))))))))))))) E C ⟨0,0,0,0⟩ B)=some (S1 w os):= @piece_app treeTable PR w 11 (some (.ref 6)) E ⟨0,0,0,0⟩ 235 5193 (Sx NO 15 187 w os).abs (Sx OI 35 216 w os).abs (S1 w os) WL (NQ++(uh++(qk++(nA++(lA++(jT++(iT++(hO++(gE++(fZ++(fF++(eR++(eh++(dB++(dj ++ []))))))))))))))) C ⟨0,0,0,0⟩ ⟨5,0,6,8⟩ (segRun_of (congrFun (p72 w) os)) (r1 w os)
theorem rb(w:World)(os:OsState):topRun treeTable PR w 11 (some (.ref 6)) 5428 (Sx NO 15 187 w os).abs (restOf (behindTheImports PR) E C ⟨0,0,0,0⟩ B)=some (S1 w os):=by rw [bEq];exact r0 w os
theorem run(w:World)(os:OsState):topRun treeTable PR w 11 (some (.ref 6)) 5441 ⟨boot_heap w.params,#[],boot_drawn,boot_toks,os⟩ (topStub PR)=some (S1 w os):= @go_top treeTable PR w 11 (some (.ref 6)) 12 5429 _ _ _ _ _ (congrFun (pre w) os) (@piece_block treeTable PR w 11 (some (.ref 6)) E ⟨0,0,0,0⟩ 1 5428 ⟨h46 w.params,#[],{},187,os⟩ (Sx NO 15 187 w os).abs (S1 w os) (behindTheImports PR) C ⟨0,0,0,0⟩ ⟨0,0,0,0⟩ (congrFun (l5 w) os) (rb w os))
theorem lk1(w:World):(fun os=>staticsOk (importedModules PR.main.body) (boot_heap w.params) (HX w.params)&&namesBound PR (HX w.params)&&gensDone (S1 w os)&&laidKept (boot_heap w.params) (HX w.params))=fun os=>true:=by rw [PySem.W.Fast.te5923862056798008813];kernel_rfl
theorem lk2(w:World):(fun os=>seen ((recsOf V).map (·.name)) (ownsOf V) [] {(S1 w os) with gens:=#[]})=fun os=>expectedOf V:=by rw [PySem.W.Fast.te5160383126252970620,R.mapR_eq,PySem.W.Fast.te3399658132070893891,PySem.W.Fast.te5991557255702980513];kernel_rfl
theorem lk3(w:World):(fun os=>(S1 w os).heap.bltView)=fun os=>bltViewBooted:=by kernel_rfl
theorem lk4(w:World):(fun os=>(S1 w os).heap.keysOk (looseW V LO) ((recsOf V).map (·.name)) ((litsOf V).map (·.1)) ((clssOf V (looseW V LO)).map (·.name))&&(S1 w os).heap.accountedOkI (importedModules PR.main.body)&&(S1 w os).heap.isNs mainGlobals&&(S1 w os).heap.isNs builtinsNs&&tablesOk V (S1 w os).heap&&XT (S1 w os)&&(if true then (S1 w os).gens.size==0 else !leftWithCleanup (S1 w os).gens))=fun os=>true:=by rw [PySem.W.Fast.te10880121769531294198,PySem.W.Fast.te821141287760084731,R.mapR_eq,PySem.W.Fast.te3399658132070893891,PySem.W.Fast.te7409074990110511671,PySem.W.Fast.te13664370479719496447,PySem.W.Fast.te14722251495701143533,PySem.W.Fast.te5923862056798008813,PySem.W.Fast.te10994771534591457954];kernel_rfl
theorem lk5(w:World):(fun os=>tabsOk V (S1 w os))=fun os=>true:=by rw [PySem.W.Fast.te479339242167458305];kernel_rfl
theorem lk6(w:World):(fun os=>pinSeenD V (drecsOf V) (S1 w os))=fun os=>pinGoodD (drecsOf V):=by rw [PySem.W.Fast.te16090120013241838585,PySem.W.Fast.te3247288618530077131];kernel_rfl
theorem lk7(w:World):(fun os=>plainSeenE V (looseW V LO) (S1 w os))=fun os=>plainGoodE V (looseW V LO):=by rw [PySem.W.Fast.te2386780881361962483,PySem.W.Fast.te821141287760084731];kernel_rfl
theorem lk8(w:World):(fun os=>plainSeenD V LO (S1 w os))=fun os=>plainGoodD V LO:=by rw [PySem.W.Fast.te11698064438423848299];kernel_rfl
theorem lk9(w:World):(fun os=>wideSeen V (S1 w os))=fun os=>wideGood V:=by rw [PySem.W.Fast.te7317090234206586261];kernel_rfl
theorem abi(w:World):(fun os=>clsSeenW V LO (S1 w os))=fun os=>clsGoodW V LO:=by rw [PySem.W.Fast.te7369524293546568484];kernel_rfl
theorem abh(w:World):(fun os=>(kHook K KA qc).obs (S1 w os))=fun os=>(kHook K KA qc).val w:=by kernel_rfl
end
end Mine.H
end
section
namespace Mine.H
open PySem PySem.W PySem.Calls PyProof.Rows
theorem opn(w:World):(fencedOpening treeTable PR w 6000).map (fun s=>(s.heap,s.gens,s.drawn,s.toks))=some (boot_heap w.params,Array.mk [],boot_drawn,boot_toks):=
 boot_open (p:=PR) (N:=6000) (by kernel_rfl) (by kernel_rfl) (fun s=>by kernel_rfl) w
theorem siz(w:World):((boot_heap w.params).isNs mainGlobals&&(#[]:Array GenState).size==0,(boot_heap w.params).objs.size,(boot_heap w.params).nsMap mainGlobals "__annotations__")=(true,11,some (.ref 6)):=by kernel_rfl
theorem left:LeftO PR V LO XT (kHook K KA qc).obs (kHook K KA qc).val 6000 true:=by
 refine LeftO.of_pieces opn siz run (by decide +kernel) fun w=>funext fun os=>?_
 have e1:=congrFun (lk1 w) os
 have e2:=congrFun (lk2 w) os
 have e3:=congrFun (lk3 w) os
 have e4:=congrFun (lk4 w) os
 have e5:=congrFun (lk5 w) os
 have e6:=congrFun (lk6 w) os
 have e7:=congrFun (lk7 w) os
 have e8:=congrFun (lk8 w) os
 have e9:=congrFun (lk9 w) os
 have Gg:=congrFun (abi w) os
 have e11:=congrFun (abh w) os
 exact looks_pair e1 (looks_pair (looks_pair e2 (looks_pair e3 (looks_pair e4 (looks_pair e5 (looks_pair e6 (looks_pair e7 (looks_pair e8 (looks_pair e9 Gg)))))))) e11)
end Mine.H
end
section
namespace Mine.H
open PySem PySem.W PySem.Calls PyProof.Rows
theorem XG:PySem.Challenge.rw_lf0006_01.wellSaid=true:=by kernel_rfl
end Mine.H
end
section
namespace Mine.H
open PySem PySem.W PySem.Calls PyProof.Rows
noncomputable section
noncomputable def fP:Stmt->Pos
 | .FunctionDef _ _ _ _ _ _ _ _ _ p=>p
 |_=>default
noncomputable def D:DefRec:=⟨"law",fA FN,fB FN,fS FN,fP FN⟩
theorem abU:defOf V PySem.Challenge.rw_lf0006_01.row.name=some (D,[]):=by kernel_rfl
theorem hp:PySem.Challenge.rw_lf0006_01.row.prog.theDef PySem.Challenge.rw_lf0006_01.row.name=some (D.params,D.body,D.scope):=by kernel_rfl
theorem tM:(chainsOk V&&opensWell PySem.Challenge.rw_lf0006_01.row.prog&&(frees PySem.Challenge.rw_lf0006_01.row.toRowW&&PySem.Challenge.rw_lf0006_01.row.within.isEmpty))=true:=by kernel_rfl
theorem hb:PySem.Challenge.rw_lf0006_01.row.prog.bare:=⟨rfl,rfl,rfl,rfl,rfl,by decide +kernel⟩
theorem UU:PySem.Challenge.rw_lf0006_01.row.toRowW.promised:=by w_witness2
theorem hd(walk:WalkO V LO (XL V []) (kHook K KA qc).says PySem.Challenge.rw_lf0006_01.row.toRowW D [] (fun f vs=>PySem.call f vs)):PySem.Challenge.rw_lf0006_01.Holds:=
 holds_law XG fun k1=>holds_open (Xt:=XT) (XP:=XL V []) (YP:=(kHook K KA qc).says) (N:=6000) left (Hook.of _) (Hook.keeps _) (fun s e=>xl_of s (Bool.and_eq_true_iff.mp e).1) XL.keeps abU hp (by kernel_rfl)
  (fun s e=>recFacts_of (Bool.and_eq_true_iff.mp e).2) (by kernel_rfl) k1 tM hb UU walk
end
end Mine.H
end
namespace Mine
section
theorem aM{C:Prop}(h:A0/\A1)(k:A0->A1->C):C:=k h.1 h.2
theorem fK{C:Prop}(h:A0/\A1/\A2)(k:A0->A1->A2->C):C:=aM h.2 (k h.1)
theorem tJ{C:Prop}(h:A0/\A1/\A2/\A3)(k:A0->A1->A2->A3->C):C:=fK h.2 (k h.1)
theorem tI{C:Prop}(h:A0/\A1/\A2/\A3/\A4)(k:A0->A1->A2->A3->A4->C):C:=tJ h.2 (k h.1)
theorem NJ{C:Prop}(h:A0/\A1/\A2/\A3/\A4/\A5)(k:A0->A1->A2->A3->A4->A5->C):C:=tI h.2 (k h.1)
theorem NI{C:Prop}(h:A0/\A1/\A2/\A3/\A4/\A5/\A6)(k:A0->A1->A2->A3->A4->A5->A6->C):C:=NJ h.2 (k h.1)
theorem adO{C:Prop}(h:A0/\A1/\A2/\A3/\A4/\A5/\A6/\A7)(k:A0->A1->A2->A3->A4->A5->A6->A7->C):C:=NI h.2 (k h.1)
theorem adN{C:Prop}(h:A0/\A1/\A2/\A3/\A4/\A5/\A6/\A7/\A8)(k:A0->A1->A2->A3->A4->A5->A6->A7->A8->C):C:=adO h.2 (k h.1)
theorem Wz{C:Prop}(h:A0/\A1/\A2/\A3/\A4/\A5/\A6/\A7/\A8/\A9)(k:A0->A1->A2->A3->A4->A5->A6->A7->A8->A9->C):C:=adN h.2 (k h.1)
theorem aU{A0:gB->Prop}{C:Prop}(h:∃x0,A0 x0)(k:∀x0,A0 x0->C):C:=h.elim fun x g=>k x g
theorem ay{A0 A1:gB->Prop}{C:Prop}(h:∃x0,A0 x0/\A1 x0)(k:∀x0,A0 x0->A1 x0->C):C:=h.elim fun x g=>aM g (k x)
theorem eN{A0 A1 A2:gB->Prop}{C:Prop}(h:∃x0,A0 x0/\A1 x0/\A2 x0)(k:∀x0,A0 x0->A1 x0->A2 x0->C):C:=h.elim fun x g=>fK g (k x)
theorem jC{A0 A1 A2 A3:gB->Prop}{C:Prop}(h:∃x0,A0 x0/\A1 x0/\A2 x0/\A3 x0)(k:∀x0,A0 x0->A1 x0->A2 x0->A3 x0->C):C:=h.elim fun x g=>tJ g (k x)
theorem qC{A0 A1 A2 A3 A4:gB->Prop}{C:Prop}(h:∃x0,A0 x0/\A1 x0/\A2 x0/\A3 x0/\A4 x0)(k:∀x0,A0 x0->A1 x0->A2 x0->A3 x0->A4 x0->C):C:=h.elim fun x g=>tI g (k x)
theorem IF{A0 A1 A2 A3 A4 A5:gB->Prop}{C:Prop}(h:∃x0,A0 x0/\A1 x0/\A2 x0/\A3 x0/\A4 x0/\A5 x0)(k:∀x0,A0 x0->A1 x0->A2 x0->A3 x0->A4 x0->A5 x0->C):C:=h.elim fun x g=>NJ g (k x)
theorem adM{A0 A1 A2 A3 A4 A5 A6:gB->Prop}{C:Prop}(h:∃x0,A0 x0/\A1 x0/\A2 x0/\A3 x0/\A4 x0/\A5 x0/\A6 x0)(k:∀x0,A0 x0->A1 x0->A2 x0->A3 x0->A4 x0->A5 x0->A6 x0->C):C:=h.elim fun x g=>NI g (k x)
theorem Wy{A0 A1 A2 A3 A4 A5 A6 A7 A8 A9:gB->Prop}{C:Prop}(h:∃x0,A0 x0/\A1 x0/\A2 x0/\A3 x0/\A4 x0/\A5 x0/\A6 x0/\A7 x0/\A8 x0/\A9 x0)(k:∀x0,A0 x0->A1 x0->A2 x0->A3 x0->A4 x0->A5 x0->A6 x0->A7 x0->A8 x0->A9 x0->C):C:=h.elim fun x g=>Wz g (k x)
theorem BK{fL:Sort u1}{A0:gB->fL->Prop}{C:Prop}(h:∃x0 x1,A0 x0 x1)(k:∀x0 x1,A0 x0 x1->C):C:=h.elim fun x g=>aU g (k x)
theorem iJ{fL:Sort u1}{A0 A1:gB->fL->Prop}{C:Prop}(h:∃x0 x1,A0 x0 x1/\A1 x0 x1)(k:∀x0 x1,A0 x0 x1->A1 x0 x1->C):C:=h.elim fun x g=>ay g (k x)
theorem dM{fL:Sort u1}{A0 A1 A2:gB->fL->Prop}{C:Prop}(h:∃x0 x1,A0 x0 x1/\A1 x0 x1/\A2 x0 x1)(k:∀x0 x1,A0 x0 x1->A1 x0 x1->A2 x0 x1->C):C:=h.elim fun x g=>eN g (k x)
theorem mX{fL:Sort u1}{A0 A1 A2 A3:gB->fL->Prop}{C:Prop}(h:∃x0 x1,A0 x0 x1/\A1 x0 x1/\A2 x0 x1/\A3 x0 x1)(k:∀x0 x1,A0 x0 x1->A1 x0 x1->A2 x0 x1->A3 x0 x1->C):C:=h.elim fun x g=>jC g (k x)
theorem jB{gB:Sort u0}{fL:Sort u1}{A0 A1 A2 A3 A4:gB->fL->Prop}{C:Prop}(h:∃x0 x1,A0 x0 x1/\A1 x0 x1/\A2 x0 x1/\A3 x0 x1/\A4 x0 x1)(k:∀x0 x1,A0 x0 x1->A1 x0 x1->A2 x0 x1->A3 x0 x1->A4 x0 x1->C):C:=h.elim fun x g=>qC g (k x)
theorem adL{gB:Sort u0}{fL:Sort u1}{A0 A1 A2 A3 A4 A5:gB->fL->Prop}{C:Prop}(h:∃x0 x1,A0 x0 x1/\A1 x0 x1/\A2 x0 x1/\A3 x0 x1/\A4 x0 x1/\A5 x0 x1)(k:∀x0 x1,A0 x0 x1->A1 x0 x1->A2 x0 x1->A3 x0 x1->A4 x0 x1->A5 x0 x1->C):C:=h.elim fun x g=>IF g (k x)
theorem adK{gB:Sort u0}{fL:Sort u1}{A0 A1 A2 A3 A4 A5 A6:gB->fL->Prop}{C:Prop}(h:∃x0 x1,A0 x0 x1/\A1 x0 x1/\A2 x0 x1/\A3 x0 x1/\A4 x0 x1/\A5 x0 x1/\A6 x0 x1)(k:∀x0 x1,A0 x0 x1->A1 x0 x1->A2 x0 x1->A3 x0 x1->A4 x0 x1->A5 x0 x1->A6 x0 x1->C):C:=h.elim fun x g=>adM g (k x)
theorem Wx{gB:Sort u0}{fL:Sort u1}{A0 A1 A2 A3 A4 A5 A6 A7 A8 A9:gB->fL->Prop}{C:Prop}(h:∃x0 x1,A0 x0 x1/\A1 x0 x1/\A2 x0 x1/\A3 x0 x1/\A4 x0 x1/\A5 x0 x1/\A6 x0 x1/\A7 x0 x1/\A8 x0 x1/\A9 x0 x1)(k:∀x0 x1,A0 x0 x1->A1 x0 x1->A2 x0 x1->A3 x0 x1->A4 x0 x1->A5 x0 x1->A6 x0 x1->A7 x0 x1->A8 x0 x1->A9 x0 x1->C):C:=h.elim fun x g=>Wy g (k x)
theorem Ww{fL:Sort u1}{iq:Sort u2}{A0:gB->fL->iq->Prop}{C:Prop}(h:∃x0 x1 x2,A0 x0 x1 x2)(k:∀x0 x1 x2,A0 x0 x1 x2->C):C:=h.elim fun x g=>BK g (k x)
theorem NH{fL:Sort u1}{iq:Sort u2}{A0 A1:gB->fL->iq->Prop}{C:Prop}(h:∃x0 x1 x2,A0 x0 x1 x2/\A1 x0 x1 x2)(k:∀x0 x1 x2,A0 x0 x1 x2->A1 x0 x1 x2->C):C:=h.elim fun x g=>iJ g (k x)
theorem qB{fL:Sort u1}{iq:Sort u2}{A0 A1 A2:gB->fL->iq->Prop}{C:Prop}(h:∃x0 x1 x2,A0 x0 x1 x2/\A1 x0 x1 x2/\A2 x0 x1 x2)(k:∀x0 x1 x2,A0 x0 x1 x2->A1 x0 x1 x2->A2 x0 x1 x2->C):C:=h.elim fun x g=>dM g (k x)
theorem mj{fL:Sort u1}{iq:Sort u2}{A0 A1 A2 A3:gB->fL->iq->Prop}{C:Prop}(h:∃x0 x1 x2,A0 x0 x1 x2/\A1 x0 x1 x2/\A2 x0 x1 x2/\A3 x0 x1 x2)(k:∀x0 x1 x2,A0 x0 x1 x2->A1 x0 x1 x2->A2 x0 x1 x2->A3 x0 x1 x2->C):C:=h.elim fun x g=>mX g (k x)
theorem wg{iq:Sort u2}{A0 A1 A2 A3 A4:gB->fL->iq->Prop}{C:Prop}(h:∃x0 x1 x2,A0 x0 x1 x2/\A1 x0 x1 x2/\A2 x0 x1 x2/\A3 x0 x1 x2/\A4 x0 x1 x2)(k:∀x0 x1 x2,A0 x0 x1 x2->A1 x0 x1 x2->A2 x0 x1 x2->A3 x0 x1 x2->A4 x0 x1 x2->C):C:=h.elim fun x g=>jB g (k x)
theorem eL{iq:Sort u2}{A0 A1 A2 A3 A4 A5:gB->fL->iq->Prop}{C:Prop}(h:∃x0 x1 x2,A0 x0 x1 x2/\A1 x0 x1 x2/\A2 x0 x1 x2/\A3 x0 x1 x2/\A4 x0 x1 x2/\A5 x0 x1 x2)(k:∀x0 x1 x2,A0 x0 x1 x2->A1 x0 x1 x2->A2 x0 x1 x2->A3 x0 x1 x2->A4 x0 x1 x2->A5 x0 x1 x2->C):C:=h.elim fun x g=>adL g (k x)
theorem BJ{iq:Sort u2}{A0 A1 A2 A3 A4 A5 A6:gB->fL->iq->Prop}{C:Prop}(h:∃x0 x1 x2,A0 x0 x1 x2/\A1 x0 x1 x2/\A2 x0 x1 x2/\A3 x0 x1 x2/\A4 x0 x1 x2/\A5 x0 x1 x2/\A6 x0 x1 x2)(k:∀x0 x1 x2,A0 x0 x1 x2->A1 x0 x1 x2->A2 x0 x1 x2->A3 x0 x1 x2->A4 x0 x1 x2->A5 x0 x1 x2->A6 x0 x1 x2->C):C:=h.elim fun x g=>adK g (k x)
theorem Wv{gB:Sort u0}{fL:Sort u1}{A0 A1 A2 A3 A4 A5 A6 A7 A8 A9:gB->fL->iq->Prop}{C:Prop}(h:∃x0 x1 x2,A0 x0 x1 x2/\A1 x0 x1 x2/\A2 x0 x1 x2/\A3 x0 x1 x2/\A4 x0 x1 x2/\A5 x0 x1 x2/\A6 x0 x1 x2/\A7 x0 x1 x2/\A8 x0 x1 x2/\A9 x0 x1 x2)(k:∀x0 x1 x2,A0 x0 x1 x2->A1 x0 x1 x2->A2 x0 x1 x2->A3 x0 x1 x2->A4 x0 x1 x2->A5 x0 x1 x2->A6 x0 x1 x2->A7 x0 x1 x2->A8 x0 x1 x2->A9 x0 x1 x2->C):C:=h.elim fun x g=>Wx g (k x)
theorem FW{fL:Sort u1}{iq:Sort u2}{A0:gB->fL->iq->qD->Prop}{C:Prop}(h:∃x0 x1 x2 x3,A0 x0 x1 x2 x3)(k:∀x0 x1 x2 x3,A0 x0 x1 x2 x3->C):C:=h.elim fun x g=>Ww g (k x)
theorem IE{fL:Sort u1}{iq:Sort u2}{A0 A1:gB->fL->iq->qD->Prop}{C:Prop}(h:∃x0 x1 x2 x3,A0 x0 x1 x2 x3/\A1 x0 x1 x2 x3)(k:∀x0 x1 x2 x3,A0 x0 x1 x2 x3->A1 x0 x1 x2 x3->C):C:=h.elim fun x g=>NH g (k x)
theorem NG{fL:Sort u1}{iq:Sort u2}{A0 A1 A2:gB->fL->iq->qD->Prop}{C:Prop}(h:∃x0 x1 x2 x3,A0 x0 x1 x2 x3/\A1 x0 x1 x2 x3/\A2 x0 x1 x2 x3)(k:∀x0 x1 x2 x3,A0 x0 x1 x2 x3->A1 x0 x1 x2 x3->A2 x0 x1 x2 x3->C):C:=h.elim fun x g=>qB g (k x)
theorem ID{fL:Sort u1}{iq:Sort u2}{A0 A1 A2 A3:gB->fL->iq->qD->Prop}{C:Prop}(h:∃x0 x1 x2 x3,A0 x0 x1 x2 x3/\A1 x0 x1 x2 x3/\A2 x0 x1 x2 x3/\A3 x0 x1 x2 x3)(k:∀x0 x1 x2 x3,A0 x0 x1 x2 x3->A1 x0 x1 x2 x3->A2 x0 x1 x2 x3->A3 x0 x1 x2 x3->C):C:=h.elim fun x g=>mj g (k x)
theorem adJ{fL:Sort u1}{iq:Sort u2}{A0 A1 A2 A3 A4:gB->fL->iq->qD->Prop}{C:Prop}(h:∃x0 x1 x2 x3,A0 x0 x1 x2 x3/\A1 x0 x1 x2 x3/\A2 x0 x1 x2 x3/\A3 x0 x1 x2 x3/\A4 x0 x1 x2 x3)(k:∀x0 x1 x2 x3,A0 x0 x1 x2 x3->A1 x0 x1 x2 x3->A2 x0 x1 x2 x3->A3 x0 x1 x2 x3->A4 x0 x1 x2 x3->C):C:=h.elim fun x g=>wg g (k x)
theorem gW{fL:Sort u1}{iq:Sort u2}{A0 A1 A2 A3 A4 A5:gB->fL->iq->qD->Prop}{C:Prop}(h:∃x0 x1 x2 x3,A0 x0 x1 x2 x3/\A1 x0 x1 x2 x3/\A2 x0 x1 x2 x3/\A3 x0 x1 x2 x3/\A4 x0 x1 x2 x3/\A5 x0 x1 x2 x3)(k:∀x0 x1 x2 x3,A0 x0 x1 x2 x3->A1 x0 x1 x2 x3->A2 x0 x1 x2 x3->A3 x0 x1 x2 x3->A4 x0 x1 x2 x3->A5 x0 x1 x2 x3->C):C:=h.elim fun x g=>eL g (k x)
theorem adI{gB:Sort u0}{fL:Sort u1}{A0 A1 A2 A3 A4 A5 A6:gB->fL->iq->qD->Prop}{C:Prop}(h:∃x0 x1 x2 x3,A0 x0 x1 x2 x3/\A1 x0 x1 x2 x3/\A2 x0 x1 x2 x3/\A3 x0 x1 x2 x3/\A4 x0 x1 x2 x3/\A5 x0 x1 x2 x3/\A6 x0 x1 x2 x3)(k:∀x0 x1 x2 x3,A0 x0 x1 x2 x3->A1 x0 x1 x2 x3->A2 x0 x1 x2 x3->A3 x0 x1 x2 x3->A4 x0 x1 x2 x3->A5 x0 x1 x2 x3->A6 x0 x1 x2 x3->C):C:=h.elim fun x g=>BJ g (k x)
theorem Wu{iq:Sort u2}{qD:Sort u3}{A0 A1 A2 A3 A4 A5 A6 A7 A8 A9:gB->fL->iq->qD->Prop}{C:Prop}(h:∃x0 x1 x2 x3,A0 x0 x1 x2 x3/\A1 x0 x1 x2 x3/\A2 x0 x1 x2 x3/\A3 x0 x1 x2 x3/\A4 x0 x1 x2 x3/\A5 x0 x1 x2 x3/\A6 x0 x1 x2 x3/\A7 x0 x1 x2 x3/\A8 x0 x1 x2 x3/\A9 x0 x1 x2 x3)(k:∀x0 x1 x2 x3,A0 x0 x1 x2 x3->A1 x0 x1 x2 x3->A2 x0 x1 x2 x3->A3 x0 x1 x2 x3->A4 x0 x1 x2 x3->A5 x0 x1 x2 x3->A6 x0 x1 x2 x3->A7 x0 x1 x2 x3->A8 x0 x1 x2 x3->A9 x0 x1 x2 x3->C):C:=h.elim fun x g=>Wv g (k x)
theorem adH{iq:Sort u2}{qD:Sort u3}{A0 A1:gB->fL->iq->qD->FZ->Prop}{C:Prop}(h:∃x0 x1 x2 x3 x4,A0 x0 x1 x2 x3 x4/\A1 x0 x1 x2 x3 x4)(k:∀x0 x1 x2 x3 x4,A0 x0 x1 x2 x3 x4->A1 x0 x1 x2 x3 x4->C):C:=h.elim fun x g=>IE g (k x)
theorem adG{iq:Sort u2}{qD:Sort u3}{A0 A1 A2:gB->fL->iq->qD->FZ->Prop}{C:Prop}(h:∃x0 x1 x2 x3 x4,A0 x0 x1 x2 x3 x4/\A1 x0 x1 x2 x3 x4/\A2 x0 x1 x2 x3 x4)(k:∀x0 x1 x2 x3 x4,A0 x0 x1 x2 x3 x4->A1 x0 x1 x2 x3 x4->A2 x0 x1 x2 x3 x4->C):C:=h.elim fun x g=>NG g (k x)
theorem adF{iq:Sort u2}{qD:Sort u3}{A0 A1 A2 A3 A4:gB->fL->iq->qD->FZ->Prop}{C:Prop}(h:∃x0 x1 x2 x3 x4,A0 x0 x1 x2 x3 x4/\A1 x0 x1 x2 x3 x4/\A2 x0 x1 x2 x3 x4/\A3 x0 x1 x2 x3 x4/\A4 x0 x1 x2 x3 x4)(k:∀x0 x1 x2 x3 x4,A0 x0 x1 x2 x3 x4->A1 x0 x1 x2 x3 x4->A2 x0 x1 x2 x3 x4->A3 x0 x1 x2 x3 x4->A4 x0 x1 x2 x3 x4->C):C:=h.elim fun x g=>adJ g (k x)
theorem FV{qD:Sort u3}{FZ:Sort u4}{A0 A1 A2 A3 A4 A5 A6:gB->fL->iq->qD->FZ->Prop}{C:Prop}(h:∃x0 x1 x2 x3 x4,A0 x0 x1 x2 x3 x4/\A1 x0 x1 x2 x3 x4/\A2 x0 x1 x2 x3 x4/\A3 x0 x1 x2 x3 x4/\A4 x0 x1 x2 x3 x4/\A5 x0 x1 x2 x3 x4/\A6 x0 x1 x2 x3 x4)(k:∀x0 x1 x2 x3 x4,A0 x0 x1 x2 x3 x4->A1 x0 x1 x2 x3 x4->A2 x0 x1 x2 x3 x4->A3 x0 x1 x2 x3 x4->A4 x0 x1 x2 x3 x4->A5 x0 x1 x2 x3 x4->A6 x0 x1 x2 x3 x4->C):C:=h.elim fun x g=>adI g (k x)
theorem adE{FZ:Sort u4}{Ot:Sort u5}{A0 A1:gB->fL->iq->qD->FZ->Ot->Prop}{C:Prop}(h:∃x0 x1 x2 x3 x4 x5,A0 x0 x1 x2 x3 x4 x5/\A1 x0 x1 x2 x3 x4 x5)(k:∀x0 x1 x2 x3 x4 x5,A0 x0 x1 x2 x3 x4 x5->A1 x0 x1 x2 x3 x4 x5->C):C:=h.elim fun x g=>adH g (k x)
theorem NF{FZ:Sort u4}{Ot:Sort u5}{A0 A1 A2 A3 A4 A5 A6:gB->fL->iq->qD->FZ->Ot->Prop}{C:Prop}(h:∃x0 x1 x2 x3 x4 x5,A0 x0 x1 x2 x3 x4 x5/\A1 x0 x1 x2 x3 x4 x5/\A2 x0 x1 x2 x3 x4 x5/\A3 x0 x1 x2 x3 x4 x5/\A4 x0 x1 x2 x3 x4 x5/\A5 x0 x1 x2 x3 x4 x5/\A6 x0 x1 x2 x3 x4 x5)(k:∀x0 x1 x2 x3 x4 x5,A0 x0 x1 x2 x3 x4 x5->A1 x0 x1 x2 x3 x4 x5->A2 x0 x1 x2 x3 x4 x5->A3 x0 x1 x2 x3 x4 x5->A4 x0 x1 x2 x3 x4 x5->A5 x0 x1 x2 x3 x4 x5->A6 x0 x1 x2 x3 x4 x5->C):C:=h.elim fun x g=>FV g (k x)
theorem adD{α6:Sort u6}{A0 A1:gB->fL->iq->qD->FZ->Ot->α6->Prop}{C:Prop}(h:∃x0 x1 x2 x3 x4 x5 x6,A0 x0 x1 x2 x3 x4 x5 x6/\A1 x0 x1 x2 x3 x4 x5 x6)(k:∀x0 x1 x2 x3 x4 x5 x6,A0 x0 x1 x2 x3 x4 x5 x6->A1 x0 x1 x2 x3 x4 x5 x6->C):C:=h.elim fun x g=>adE g (k x)
theorem IC{α7:Sort u7}{A0 A1:gB->fL->iq->qD->FZ->Ot->α6->α7->Prop}{C:Prop}(h:∃x0 x1 x2 x3 x4 x5 x6 x7,A0 x0 x1 x2 x3 x4 x5 x6 x7/\A1 x0 x1 x2 x3 x4 x5 x6 x7)(k:∀x0 x1 x2 x3 x4 x5 x6 x7,A0 x0 x1 x2 x3 x4 x5 x6 x7->A1 x0 x1 x2 x3 x4 x5 x6 x7->C):C:=h.elim fun x g=>adD g (k x)
theorem zS{α:Type u}{a:α}{C:Prop}(h:none=some a):C:=nomatch h
theorem zN{α:Type u}{a:α}{C:Prop}(h:some a=none):C:=nomatch h
theorem zT{C:Prop}(h:false=true):C:=nomatch h
theorem zF{C:Prop}(h:true=false):C:=nomatch h
theorem zM{α:Type u}{a:α}{C:Prop}(h:a∈([]:List α)):C:=nomatch h
theorem zL{α:Type u}{a:α}{l:List α}{C:Prop}(h:[]=a::l):C:=nomatch h
theorem zK{α:Type u}{a:α}{l:List α}{C:Prop}(h:a::l=[]):C:=nomatch h
theorem Mg{P:Nat->Prop}{n k:Nat}(hk:k<n+1)(h:P n)(g:k<n->P k):P k:=(Nat.lt_or_eq_of_le (Nat.le_of_lt_succ hk)).elim g fun e=>e▸h
@[elab_as_elim] theorem lt4{P:Nat->Prop}{k:Nat}(hk:k<4)(h0:P 0)(h1:P 1)(h2:P 2)(h3:P 3):P k:=Mg hk h3 fun hk=>Mg hk h2 fun hk=>Mg hk h1 fun hk=>Mg hk h0 fun h=>absurd h (Nat.not_lt_zero k)
@[elab_as_elim] theorem lt5{P:Nat->Prop}{k:Nat}(hk:k<5)(h0:P 0)(h1:P 1)(h2:P 2)(h3:P 3)(h4:P 4):P k:=Mg hk h4 fun hk=>lt4 hk h0 h1 h2 h3
@[elab_as_elim] theorem Mh{P:Nat->Prop}{k:Nat}(hk:k<7)(h0:P 0)(h1:P 1)(h2:P 2)(h3:P 3)(h4:P 4)(h5:P 5)(h6:P 6):P k:=Mg hk h6 fun hk=>Mg hk h5 fun hk=>lt5 hk h0 h1 h2 h3 h4
theorem uA{a k c:Nat}(h:a+k+200<c):a+200<c:=Nat.lt_of_le_of_lt (Nat.add_le_add_right (Nat.le_add_right a k) 200) h
theorem uB{a k c:Nat}(h:a+k+200<c):a<c:=Nat.lt_of_le_of_lt (Nat.le_trans (Nat.le_add_right a k) (Nat.le_add_right _ 200)) h
theorem uC{a k c:Nat}(h:a+k<c):a<c:=Nat.lt_of_le_of_lt (Nat.le_add_right a k) h
theorem zB{a b:Nat}{C:Prop}(h:a=b)(g:Nat.beq a b=false):C:=by subst h;rw [Nat.beq_refl] at g;exact zF g
theorem zd{a b:Nat}(h:Nat.ble a b=true):a<=b:=Nat.le_of_ble_eq_true h
theorem aH{α:Type u}{a b:α}(h:some a=some b):a=b:=Option.some.inj h
theorem cg{α:Type u}{a:α}{l:List α}:a∈a::l:=List.mem_cons_self
theorem fw{α:Type u}{a:α}(y:α){l:List α}(h:a∈l):a∈y::l:=List.mem_cons_of_mem y h
theorem dU{α:Type u}{a b:α}(h:a∈[b]):a=b:=List.mem_singleton.mp h
theorem iM{α:Type u}{motive:List α->Prop}(t:List α)(nil:motive [])(cons:∀head tail,motive (head::tail)):motive t:=List.casesOn t nil cons
theorem gn{α:Type u}{a b:α}{l:List α}(h:a∈b::l):a=b\/a∈l:=List.mem_cons.mp h
theorem iL{a b:Nat}(h:Nat.beq a b=true):a=b:=Nat.eq_of_beq_eq_true h
theorem eP{α:Type u}(a b c:List α):a++b++c=a++(b++c):=List.append_assoc a b c
theorem iV{α:Type u}{l:List α}{i:Nat}(h:i<l.length):l[i]?=some l[i]:=List.getElem?_eq_getElem h
theorem kW{α:Type u}{l:List α}{i:Nat}{a:α}(h:l[i]?=some a):a∈l:=List.mem_of_getElem? h
theorem pk{α:Type u}{p:α->Bool}{l:List α}(h:l.all p=true):∀x,x∈l->p x=true:=List.all_eq_true.mp h
theorem sJ{α:Type u}{a:α}{l:List α}(t:List α)(h:a∈l):a∈l++t:=List.mem_append_left t h
theorem nS{α:Type u}{β:Type v}{f:α->β}{b:β}{l:List α}(h:b∈l.map f):∃a,a∈l/\f a=b:=List.mem_map.mp h
theorem jN{α:Type u}{l:List α}{i:Nat}{a:α}(h:l[i]?=some a):∃h:i<l.length,l[i]=a:=List.getElem?_eq_some_iff.mp h
@[elab_as_elim] theorem aa{α:Sort u}{a b:α}{C:α->Prop}(h:a=b)(k:C b):C a:=h▸k
theorem sP{α:Type u}{β:Type v}{a c:α}{b d:β}(h:some (a,b)=some (c,d)):a=c/\b=d:=by cases h;exact ⟨rfl,rfl⟩
theorem eO{α:Type u}{β:Type v}{a c:α}{b d:β}{C:Prop}(h:some (a,b)=some (c,d))(k:a=c->b=d->C):C:=k (sP h).1 (sP h).2
theorem uL{a p k c:Nat}(h:a+p+20<c)(g:Nat.ble k 20=true):a+k<c:=Nat.lt_of_le_of_lt (Nat.le_trans (Nat.add_le_add_left (zd g) a) (Nat.add_le_add_right (Nat.le_add_right a p) 20)) h
theorem AI{a b c:Nat}(h:b<=c)(g:Nat.ble a b=true):a<=c:=Nat.le_trans (zd g) h
end
section
open PySem
noncomputable section
noncomputable def ni(l:List Nat):Nat:=List.rec 0 (fun a _ ih=>2 ^ a*(2*ih+1)) l
noncomputable def code(s:Str):Nat:=ni s.cps.toList
noncomputable def S(x:String):Str:=Str.ofString x
inductive Ty where
 |list | dict | str | tuple | bool | range | enumerate
inductive Bi where
 |isinstance | len
inductive AV where
 |none | bool (b:Bool) | int (i:Int) | str (s:Str) | ty (t:Ty) | bi (b:Bi) | k (a:Addr) | o (i:Nat) | d (i:Nat)
noncomputable abbrev aL:=List (Nat×AV)
noncomputable abbrev bk:=List (Nat×Str×AV)
inductive PV where
 |none | int (i:Int) | str (s:Str) | tup (l:PV) | list (l:PV) | dict (l:PV) | nil | cons (a r:PV) | ent (k:Str) (a r:PV)
inductive AO where
 |inst (C:Addr) (fs:aL)
 |list (xs:List AV)
 |tup (xs:List AV)
 |dict (es:bk)
 |pmap (kn:List (Nat×Option AV)) (rest:Nat)
 |db (tb:List (Nat×bk×Option Nat))
 |cell (v:AV)
 |cy
 |keys (i:Nat)
 |range (n:Nat)
 |gone
inductive AF where
 |next | ret (v:AV) | cont | brk
inductive Tg where
 |any | none | str (full:Bool) | dict (full:Bool) | tuple | int | nG | nn
noncomputable def Vz:Nat:=code (S "__debug__")
inductive PE where
 |k (a:AV) | loc (x:Nat) | cl (x:Nat) | VI (x:Nat)
 |bop (op:BoolOp) (es:PE) | not (e:PE) | ife (t b o:PE) | bin (op:Operator) (l r:PE) | cmp (op:CmpOp) (l r:PE)
 |list (es:PE) | tup (es:PE) | dict (ps:PE) | attr (e:PE) (x:Nat) | copy (e:PE) | sub (e i:PE)
 |call (f as ks:PE) | Mc (e:PE) (x:Nat) (as ks:PE) | lc (elt:PE) (x:Nat) (iter ifs:PE)
 |nil | cons (a r:PE) | kw (x:Nat) (e r:PE) | pair (k v r:PE)
 |pass | cont | O9 | ret (e:PE) | expr (e:PE) | asg (t e:PE) | cond (t b o:PE) | del (e i:PE) | loop (t it body:PE)
 |D7 (t e body:PE) | tn (x:Nat) | tcl (x:Nat) | Cq (e:PE) (x:Nat) | OC (e i:PE) | Ki (ts:PE)
 |bad
section compile
variable (gl:aL)
noncomputable def ah{α:Type}(x:Nat)(l:List (Nat×α)):Option α:=List.rec none (fun p _ ih=>Prod.rec (fun a b=>Bool.rec ih (some b) (Nat.beq a x)) p) l
noncomputable def iN(x:Nat)(l:List (Str×NameKind)):Option NameKind:=List.rec none (fun p _ ih=>Prod.rec (fun a b=>Bool.rec ih (some b) (Nat.beq (code a) x)) p) l
inductive gf where
 |fn (sc:List (Str×NameKind)) | comp (sc outer:List (Str×NameKind))
noncomputable def qU(b:gf)(x:Str):PE:=match b with
 | .fn sc=>match iN (code x) sc with
  |some .local=> .loc (code x)
  |some .cell=> .cl (code x)
  |some .globalImplicit=>match ah (code x) gl with
   |some v=> .k v
   |none=> .bad
  |_=> .bad
 | .comp sc outer=>match iN (code x) sc with
  |some .local=> .VI (code x)
  |some .free=>match iN (code x) outer with
   |some .cell=> .cl (code x)
   |_=> .bad
  |some .globalImplicit=>match ah (code x) gl with
   |some v=> .k v
   |none=> .bad
  |_=> .bad
noncomputable def uX(b:gf)(x:Str):PE:=cond (Nat.beq (code x) Vz) .bad (qU gl b x)
noncomputable def fM(b:gf)(x:Str):PE:=match b with
 | .fn sc=>match iN (code x) sc with
  |some .local=> .tn (code x)
  |some .cell=> .tcl (code x)
  |_=> .bad
 | .comp _ _=> .bad
noncomputable def th:Const->PE
 | .none=> .k .none
 | .bool b=> .k (.bool b)
 | .int i=> .k (.int i)
 | .str s=> .k (.str s)
 |_=> .bad
noncomputable def one{α:Type}:List α->Option α
 | [a]=>some a
 |_=>none
noncomputable def bh:Expr->Bool
 | .Call (.Name _ _) [] [] _=>false
 |_=>true
noncomputable def isStar(e:Expr):Bool:=Nat.beq e.ctorIdx 22
noncomputable def bT(e:Expr):Bool:=Nat.beq e.ctorIdx 7
noncomputable def nameOf:Expr->Option Str
 | .Name x _=>some x
 |_=>none
noncomputable def MG:PE->PE
 | .cons r _=>r
 |_=> .bad
noncomputable def B3:PE->PE->PE
 | .nil, .nil=> .nil
 | .cons k r, .cons a q=> .pair k a (B3 r q)
 |_,_=> .bad
noncomputable def iz(all tL:List (Str×NameKind)):List (Str×NameKind)->Bool
 | []=>true
 |(y,k)::r=>match k with
  | .local=>(match iN (code y) all with
   |some .local=>iz all tL r
   |_=>false)
  | .free=>(match iN (code y) tL with
   |some .cell=>iz all tL r
   |_=>false)
  | .cell=>false
  |_=>iz all tL r
noncomputable def Ek(k:ScopeKind):Bool:=match k with
 | .function=>true
 |_=>false
noncomputable def xu(scope:Scope)(x:Nat):gf->Bool
 | .fn tL=>Ek scope.kind&&iz scope.names tL scope.names&&(match iN x scope.names with
  |some .local=>true
  |_=>false)
 | .comp _ _=>false
noncomputable def gf.in(scope:Scope):gf->gf
 | .fn sc=> .comp scope.names sc
 |b=>b
noncomputable def ou:Expr->Option Bool
 | .Slice l u s _=>some (!(l.isSome||(u.isSome||s.isSome)))
 |_=>none
noncomputable def I1(c:Bool)(as ks:PE):PE->PE
 | .attr e x=>cond c (.Mc e x as ks) .bad
 |_=> .bad
noncomputable def callC(f:Expr)(pf:PE)(l n:Nat)(as ks:PE):PE:=Bool.rec (.call pf as ks) (I1 (Nat.beq f.pos.endLine l&&Nat.ble n 20) as ks pf) (Nat.beq f.ctorIdx 20)
noncomputable def OL(px pi:PE)(nm:Bool)(k:Option Bool):PE:=Option.rec (.sub px pi) (fun f=>cond (f&&nm) (.copy px) .bad) k
noncomputable def VG(o:Option CmpOp)(c:Bool)(l r:PE):PE:=Option.rec .bad (fun op=>cond c .bad (.cmp op l r)) o
noncomputable def xc{α:Type}(l:List α):Bool:=Nat.beq l.length 1
noncomputable def lcC(scope:Scope)(b:gf)(elt:PE):PE->PE
 | .lc _ x iter ifs=>cond (xu scope x b) (.lc elt x iter ifs) .bad
 |_=> .bad
noncomputable def gC(o:Option Str)(c:Bool)(it ifs:PE):PE:=Option.rec .bad (fun x=>cond c .bad (.lc .nil (code x) it ifs)) o
mutual
noncomputable def cE(b:gf):Expr->PE
 | .Constant c _ _=>th c
 | .Name x _=>uX gl b x
 | .BoolOp op es _=> .bop op (gz b es)
 | .UnaryOp op x _=>match op with
  | .Not=> .not (cE b x)
  |_=> .bad
 | .IfExp t x o _=> .ife (cE b t) (cE b x) (cE b o)
 | .BinOp l op r _=> .bin op (cE b l) (cE b r)
 | .Compare l ops rs _=>VG (one ops) (!xc rs||rs.any bT) (cE b l) (MG (gz b rs))
 | .List es _=> .list (gz b es)
 | .Tuple es _ _=> .tup (gz b es)
 | .Dict ks vs _=>cond (Nat.ble ks.length 15) (.dict (B3 (VP b ks) (gz b vs))) .bad
 | .Attribute x name _=>cond (bh x) (.attr (cE b x) (code name)) .bad
 | .Subscript x i _=>OL (cE b x) (cE b i) (nameOf x).isSome (ou i)
 | .Call f as ks pos=>callC f (cE b f) pos.line (as.length+ks.length) (gz b as) (JC b ks)
 | .ListComp elt gens scope _=>Bool.rec .bad (lcC scope b (cE (b.in scope) elt) (MG (cGs b (b.in scope) gens))) (xc gens)
 |_=> .bad
noncomputable def gz(b:gf):List Expr->PE
 | []=> .nil
 |e::r=>cond (isStar e) .bad (.cons (cE b e) (gz b r))
noncomputable def VP(b:gf):List (Option Expr)->PE
 | []=> .nil
 |k::r=> .cons (cO b k) (VP b r)
noncomputable def cO(b:gf):Option Expr->PE
 |none=> .bad
 |some e=>cE b e
noncomputable def JC(b:gf):List Keyword->PE
 | []=> .nil
 |k::r=>cK b k (JC b r)
noncomputable def cK(b:gf):Keyword->PE->PE
 |⟨n,e,_⟩,r=>match n with
  |some x=> .kw (code x) (cE b e) r
  |none=> .bad
noncomputable def cGs(b b':gf):List Comprehension->PE
 | []=> .nil
 |g::r=> .cons (cG b b' g) (cGs b b' r)
noncomputable def cG(b b':gf):Comprehension->PE
 |⟨t,iter,ifs,a⟩=>gC (nameOf t) (!(decide (a=0))||bT iter) (cE b iter) (gz b' ifs)
end
noncomputable def qo(e:Expr):Bool:=Nat.ble 8 e.ctorIdx&&Nat.ble e.ctorIdx 10
mutual
noncomputable def cT(b:gf):Expr->PE
 | .Name x _=>fM b x
 | .Attribute x name _=>cond (bh x) (.Cq (cE gl b x) (code name)) .bad
 | .Subscript x i _=> .OC (cE gl b x) (cE gl b i)
 | .Tuple ts _ _=> .Ki (Gj b ts)
 |_=> .bad
noncomputable def Gj(b:gf):List Expr->PE
 | []=> .nil
 |e::r=>cond (isStar e) .bad (.cons (cT b e) (Gj b r))
end
noncomputable def mL(e:Expr):Bool:=Nat.beq e.ctorIdx 25
noncomputable def itemsOf:Expr->Option Expr
 | .Call (.Attribute o name apos) [] [] pos=>cond (Nat.beq (code name) (code (S "items"))&&(bh o&&Nat.beq apos.endLine pos.line)) (some o) none
 |_=>none
noncomputable def rW:Expr->Option (List Expr)
 | .Tuple ts _ _=>some ts
 |_=>none
noncomputable def yJ(b:gf)(t it:Expr)(body:PE):PE:=match itemsOf it,rW t with
 |some o,some ts=> .D7 (Gj gl b ts) (cE gl b o) body
 |_,_=> .loop (cT gl b t) (cE gl b it) body
noncomputable def VQ(b:gf):Expr->PE
 | .Subscript x i _=> .del (cE gl b x) (cE gl b i)
 |_=> .bad
mutual
noncomputable def cS(b:gf):Stmt->PE
 | .Pass _=> .pass
 | .Continue _=> .cont
 | .Return e _=>match e with
  |none=> .O9
  |some e=> .ret (cE gl b e)
 | .Expr e _=>cond (qo e) .bad (.expr (cE gl b e))
 | .Assign ts e _=>Option.rec .bad (fun t=>cond (qo e||mL t) .bad (.asg (cT gl b t) (cE gl b e))) (one ts)
 | .If t x o _=> .cond (cE gl b t) (tO b x) (tO b o)
 | .Delete ts _=>Option.rec .bad (VQ gl b) (one ts)
 | .For t it body orelse _=>cond (bT it || !orelse.isEmpty) .bad (yJ gl b t it (tO b body))
 |_=> .bad
noncomputable def tO(b:gf):List Stmt->PE
 | []=> .nil
 |s::r=> .cons (cS b s) (tO b r)
end
end compile
inductive Tr(α:Type) where
 |nil | node (k:Nat) (v:α) (l r:Tr α)
inductive MT where
 |nil | node (v:AO) (l r:MT)
structure Mem where
 t:MT
 n:Nat
noncomputable def iY(t:MT):Nat->Option AO:=MT.rec (fun _=>none) (fun v _ _ l r i=>Nat.rec (some v) (fun j _=>Nat.rec (l (j/2)) (fun _ _=>r (j/2)) (j%2)) i) t
noncomputable def wM(t:MT):Nat->AO->MT:=MT.rec (fun _ _=> .nil) (fun v l r sl sr i o=>Nat.rec (.node o l r) (fun j _=>Nat.rec (.node v (sl (j/2) o) r) (fun _ _=> .node v l (sr (j/2) o)) (j%2)) i) t
noncomputable def xy(t:MT):Nat->AO->MT:=MT.rec (fun _ o=> .node o .nil .nil) (fun v l r sl sr i o=>Nat.rec (.node o l r) (fun j _=>Nat.rec (.node v (sl (j/2) o) r) (fun _ _=> .node v l (sr (j/2) o)) (j%2)) i) t
noncomputable def Mem.get(m:Mem)(i:Nat):Option AO:=iY m.t i
noncomputable def Mem.set(m:Mem)(i:Nat)(o:AO):Mem:=⟨wM m.t i o,m.n⟩
noncomputable def Mem.push(m:Mem)(o:AO):Mem:=⟨xy m.t m.n o,m.n+1⟩
noncomputable def Mem.j8(m:Mem)(l:List AO):Mem:=List.rec (motive:=fun _=>Mem->Mem) (fun m=>m) (fun o _ ih m=>ih (m.push o)) l m
noncomputable def Mem.of(l:List AO):Mem:=Mem.j8 ⟨.nil,0⟩ l
noncomputable def dH{α:Type}(x:Nat)(t:Tr α):Option α:=Tr.rec none (fun k v _ _ l r=>Bool.rec (Bool.rec r l (Nat.ble x k)) (some v) (Nat.beq x k)) t
structure eV where
 qual:Str
 params:List Nat
 ki:List AV
 body:PE
 cells:List Nat
inductive Att where
 |fn (f:Addr) | val (v:AV) | own
structure zU where
 init:Addr
 BZ:Tr Att
 mro:List Addr
structure bA where
 fns:Tr eV
 cls:List (Addr×zU)
 iW:List (Addr×List AV)
 tags:List Tg
 eqs:List (Nat×Nat×Bool)
 ops:List (Operator×Nat×Int×AV)
 eu:List (Operator×Nat×Nat×AV)
 dg:List (Nat×Nat×Option Nat)
 ds:List (Nat×Nat×Nat)
 jO:List (Nat×Nat×Bool)
 kn:Nat
 pT:List (Bool×Nat×PV×Bool)
 spec:Addr->List AV->Mem->Nat->Option (AV×Mem×Nat)
structure St where
 loc:aL
 mem:Mem
 nd:Nat
structure Cx where
 cells:List (Nat×Nat)
 comp:Option (Nat×AV)
noncomputable def gI(k:Nat):Option Nat:=Bool.rec (Bool.rec (Bool.rec (Bool.rec none (some 3) (Nat.beq k (code (S "deps:")))) (some 2) (Nat.beq k (code (S "checker:")))) (some 1) (Nat.beq k (code (S "_values_:")))) (some 0) (Nat.beq k (code (S "result:")))
noncomputable def b8{α:Type}(x:Nat)(v:α)(l:List (Nat×α)):List (Nat×α):=List.rec [(x,v)] (fun p r ih=>Prod.rec (fun a b=>Bool.rec ((a,b)::ih) ((a,v)::r) (Nat.beq a x)) p) l
noncomputable def bP(x:Nat)(l:bk):Option AV:=List.rec none (fun p _ ih=>Prod.rec (fun a b=>Bool.rec ih (some b.2) (Nat.beq a x)) p) l
noncomputable def jV(s:Str)(v:AV)(l:bk):bk:=List.rec [(code s,s,v)] (fun p r ih=>Prod.rec (fun a b=>Bool.rec ((a,b)::ih) ((a,b.1,v)::r) (Nat.beq a (code s))) p) l
noncomputable def FC{α:Type}(l:List α):Nat->Option α:=List.rec (fun _=>none) (fun a _ ih i=>Nat.rec (some a) (fun j _=>ih j) i) l
noncomputable def lz{α:Type}(l:List α):Nat->α->List α:=List.rec (fun _ _=>[]) (fun a r ih i b=>Nat.rec (b::r) (fun j _=>a::ih j b) i) l
noncomputable def dG(x:Nat)(l:List Nat):Bool:=List.rec false (fun y _ ih=>Bool.rec ih true (Nat.beq y x)) l
noncomputable def ob{α β:Type}(o:Option α)(f:α->Option β):Option β:=Option.rec none f o
noncomputable def short{α β:Type}(l:List α)(r:Option β):Option β:=Bool.rec none r (Nat.ble l.length 900)
noncomputable def sq(a b:Str):Bool:=Nat.beq (code a) (code b)
noncomputable def bN(P:bA)(i:Nat):Tg:=Option.rec .any id (FC P.tags i)
noncomputable def keysOf:bk->List AV
 | []=>[]
 |p::r=> .str p.2.1::keysOf r
noncomputable def upTo:Nat->Nat->List AV
 | 0,_=>[]
 |n+1,k=> .int k::upTo n (k+1)
noncomputable def abq(o:AO):Option (List AV):=match o with
 | .dict es=>short es (some (keysOf es))
 |_=>none
noncomputable def XE(mem:Mem)(o:AO):Option (List AV):=match o with
 | .list xs=>some xs
 | .tup xs=>some xs
 | .keys j=>ob (mem.get j) abq
 |_=>none
noncomputable def IU(P:bA)(mem:Mem)(x:AV):Option (List AV):=match x with
 | .o i=>ob (mem.get i) (XE mem)
 | .k a=>ah a P.iW
 |_=>none
noncomputable def full{α:Type}:List α->Bool
 | []=>false
 |_::_=>true
noncomputable def Kk(o:AO):Option Bool:=match o with
 | .list xs=>short xs (some (full xs))
 | .tup xs=>short xs (some (full xs))
 | .dict xs=>short xs (some (full xs))
 |_=>none
noncomputable def Co(t:Tg):Option Bool:=match t with
 | .none=>some false
 | .str b=>some b
 | .dict b=>some b
 | .tuple=>some true
 | .nG=>some false
 |_=>none
noncomputable def rX(P:bA)(mem:Mem)(x:AV):Option Bool:=match x with
 | .none=>some false
 | .bool b=>some b
 | .int i=>some (!(decide (i=0)))
 | .str s=>short s.cps.toList (some (full s.cps.toList))
 | .k a=>ob (ah a P.iW) fun l=>short l (some (full l))
 | .o i=>ob (mem.get i) Kk
 | .d i=>Co (bN P i)
 |_=>none
noncomputable def yV(P:bA)(x:AV):Option Bool:=match x with
 | .none=>some true
 | .d i=>match bN P i with
  | .any=>none
  | .nG=>none
  | .none=>some true
  |_=>some false
 |_=>some false
noncomputable def uN(i j:Nat)(l:List (Nat×Nat×Bool)):Option Bool:=List.rec none (fun p _ ih=>Bool.rec ih (some p.2.2) (Nat.beq p.1 i&&Nat.beq p.2.1 j)) l
noncomputable def wo{α:Type}(i j:Nat)(l:List (Nat×Nat×α)):Option α:=List.rec none (fun p _ ih=>Bool.rec ih (some p.2.2) (Nat.beq p.1 i&&Nat.beq p.2.1 j)) l
noncomputable def OQ(f:AV->Option PV)(es:bk):Option PV:=List.rec (some .nil) (fun p _ ih=>ob (f p.2.2) fun a=>ob ih fun r=>some (.ent p.2.1 a r)) es
noncomputable def Ky(f:AV->Option PV)(xs:List AV):Option PV:=List.rec (some .nil) (fun a _ ih=>ob (f a) fun a=>ob ih fun r=>some (.cons a r)) xs
noncomputable def OP(f:AV->Option PV)(o:AO):Option PV:=match o with
 | .dict es=>short es (ob (OQ f es) fun l=>some (.dict l))
 | .list xs=>short xs (ob (Ky f xs) fun l=>some (.list l))
 | .tup xs=>short xs (ob (Ky f xs) fun l=>some (.tup l))
 |_=>none
noncomputable def OO(ks:List Nat)(kn:Nat)(f:AV->Option PV)(mem:Mem)(a:AV):Option PV:=match a with
 | .d i=>Bool.rec none (some (.int i)) (Nat.blt i kn)
 | .str s=>some (.str s)
 | .o j=>Bool.rec (ob (mem.get j) (OP f)) none (dG j ks)
 | .none=>some .none
 |_=>none
noncomputable def Kz(ks:List Nat)(kn:Nat)(mem:Mem)(n:Nat):AV->Option PV:=Nat.rec (fun _=>none) (fun _ ih a=>OO ks kn ih mem a) n
noncomputable def w7:PV->PV->Bool
 | .none, .none=>true
 | .int i, .int j=>decide (i=j)
 | .str s, .str t=>sq s t
 | .tup a, .tup b=>w7 a b
 | .list a, .list b=>w7 a b
 | .dict a, .dict b=>w7 a b
 | .nil, .nil=>true
 | .cons a r, .cons b q=>w7 a b&&w7 r q
 | .ent k a r, .ent l b q=>sq k l&&(w7 a b&&w7 r q)
 |_,_=>false
noncomputable def DL(c:Bool)(i:Nat)(x:PV)(l:List (Bool×Nat×PV×Bool)):Option Bool:=List.rec none (fun p _ ih=>Bool.rec ih (some p.2.2.2) (decide (p.1=c)&&(Nat.beq p.2.1 i&&w7 p.2.2.1 x))) l
noncomputable def eqG(P:bA)(mem:Mem)(c:Bool)(i j:Nat):Option Bool:=Bool.rec none (ob (Kz [] P.kn mem 4 (.o j)) fun x=>DL c i x P.pT) (Nat.blt i P.kn)
noncomputable def rt(f:AV->AV->Option Bool):List AV->List AV->Option Bool
 | [],[]=>some true
 |a::r,b::q=>ob (f a b) fun z=>ob (rt f r q) fun w=>some (z&&w)
 |_,_=>none
noncomputable def E4(f:AV->AV->Option Bool):bk->bk->Option Bool
 | [],_=>some true
 |p::r,ys=>match bP p.1 ys with
  |none=>some false
  |some b=>ob (f p.2.2 b) fun z=>ob (E4 f r ys) fun w=>some (z&&w)
noncomputable def eqO(f:AV->AV->Option Bool)(a b:AO):Option Bool:=match a,b with
 | .list xs, .list ys=>Bool.rec (some false) (rt f xs ys) (Nat.beq xs.length ys.length)
 | .tup xs, .tup ys=>Bool.rec none (rt f xs ys) (Nat.beq xs.length ys.length)
 |_,_=>none
noncomputable def eqS(P:bA)(f:AV->AV->Option Bool)(mem:Mem)(a b:AV):Option Bool:=match a,b with
 | .none, .none=>some true
 | .none, .str _=>some false
 | .str _, .none=>some false
 | .bool x, .bool y=>some (x==y)
 | .int x, .int y=>some (decide (x=y))
 | .str x, .str y=>some (sq x y)
 | .d i, .d j=>uN i j P.eqs
 | .d i, .str x=>wo i (code x) P.jO
 | .d i, .o j=>eqG P mem false i j
 | .o j, .d i=>eqG P mem true i j
 | .o i, .o j=>Bool.rec (ob (mem.get i) fun x=>ob (mem.get j) fun y=>eqO f x y) none (Nat.beq i j)
 |_,_=>none
noncomputable def E5(P:bA)(n:Nat)(mem:Mem):AV->AV->Option Bool:=Nat.rec (fun _ _=>none) (fun _ ih a b=>eqS P ih mem a b) n
noncomputable def eqD(P:bA)(mem:Mem)(x y:AO):Option Bool:=match x with
 | .dict xs=>match y with
  | .dict ys=>Bool.rec (some false) (E4 (E5 P 12 mem) xs ys) (Nat.beq xs.length ys.length)
  |_=>none
 |_=>none
noncomputable def vP(mem:Mem)(x:AV):Option AO:=match x with
 | .o i=>ob (mem.get i) fun o=>match o with
  | .dict es=>some (.dict es)
  |_=>none
 |_=>none
noncomputable def E2(P:bA)(mem:Mem)(a b:AV):Option Bool:=Option.rec (E5 P 12 mem a b) (fun x=>Option.rec (E5 P 12 mem a b) (fun y=>eqD P mem x y) (vP mem b)) (vP mem a)
noncomputable def lu(l:List Nat):List Nat->Bool:=List.rec (fun _=>true) (fun a _ ih q=>List.rec false (fun b q' _=>Bool.rec false (ih q') (Nat.beq a b)) q) l
noncomputable def pG(c:Nat)(l:List Nat):Bool:=List.rec false (fun a _ ih=>Bool.rec ih true (Nat.beq a c)) l
noncomputable def MW:Nat:=code (S "_result:%s")
noncomputable def Hv:List Nat:=(S "_result:").cps.toList
noncomputable def om(a b:List Nat):Str:=⟨(a++b).toArray⟩
noncomputable def xo(x:Str):List AV->Option Bool
 | []=>some false
 |a::r=>match a with
  | .str y=>ob (xo x r) fun z=>some (sq y x||z)
  |_=>none
noncomputable def inO(a:Str)(o:AO):Option Bool:=match o with
 | .list xs=>xo a xs
 | .dict es=>some (Option.isSome (bP (code a) es))
 | .pmap kn _=>ob (ah (code a) kn) fun v=>some (Option.isSome v)
 |_=>none
noncomputable def inA(P:bA)(mem:Mem)(x c:AV):Option Bool:=match x with
 | .str a=>match c with
  | .str b=>match a.cps.toList with
   | [u]=>some (pG u b.cps.toList)
   |_=>none
  | .o i=>ob (mem.get i) (inO a)
  | .d i=>ob (wo i (code a) P.dg) fun v=>some (Option.isSome v)
  |_=>none
 |_=>none
noncomputable def mG(a b:Operator):Bool:=decide (a=b)
noncomputable def okN(nd:Nat)(r:AV):Bool:=match r with
 | .d j=>Nat.beq j nd
 |_=>true
noncomputable def ql(op:Operator)(i:Nat)(m:Int)(nd:Nat)(l:List (Operator×Nat×Int×AV)):Option AV:=
 List.rec none (fun p _ ih=>Bool.rec ih (some p.2.2.2) (mG p.1 op&&Nat.beq p.2.1 i&&decide (p.2.2.1=m)&&okN nd p.2.2.2)) l
noncomputable def kc(op:Operator)(i m:Nat)(nd:Nat)(l:List (Operator×Nat×Nat×AV)):Option AV:=
 List.rec none (fun p _ ih=>Bool.rec ih (some p.2.2.2) (mG p.1 op&&Nat.beq p.2.1 i&&Nat.beq p.2.2.1 m&&okN nd p.2.2.2)) l
noncomputable def DO(mem:Mem)(nd:Nat)(r:AV):Option (AV×Mem×Nat):=match r with
 | .int r=>some (.int r,mem,nd)
 | .d j=>Bool.rec none (some (.d j,mem,nd+1)) (Nat.beq j nd)
 |_=>none
noncomputable def mz(x m:Int):Int:=if m >= ((Builtin.Int.intBits x:Nat):Int) then (if x<0 then -1 else 0) else x.fdiv (2 ^ m.toNat)
noncomputable def eU(op:Operator)(x m:Int):Option Int:=match op with
 | .Mod=>if 0<m then some (x%m) else none
 | .Add=>some (x+m)
 | .FloorDiv=>if 0<m then some (x/m) else none
 | .RShift=>if 0<=m then some (mz x m) else none
 |_=>none
noncomputable def small(x:Int):Bool:=Nat.ble x.natAbs 1000
noncomputable def LP(op:Operator)(x m:Int):Option Int:=match op with
 | .Mod=>Bool.rec none (eU .Mod x m) (small x&&small m)
 | .Add=>Bool.rec none (eU .Add x m) (small x&&small m)
 |_=>none
noncomputable def Nn(P:bA)(mem:Mem)(nd:Nat)(op:Operator)(a b:AV):Option (AV×Mem×Nat):=match a,b with
 | .str f, .str x=>match op with
  | .Mod=>Bool.rec none (short x.cps.toList (some (.str (om Hv x.cps.toList),mem,nd))) (Nat.beq (code f) MW)
  | .Add=>short f.cps.toList (short x.cps.toList (some (.str (om f.cps.toList x.cps.toList),mem,nd)))
  |_=>none
 | .o i, .o j=>match op with
  | .Add=>ob (mem.get i) fun x=>ob (mem.get j) fun y=>match x,y with
   | .list xs, .list ys=>short xs (short ys (some (.o mem.n,mem.push (.list (xs++ys)),nd)))
   |_,_=>none
  |_=>none
 | .d i, .int m=>ob (ql op i m nd P.ops) (DO mem nd)
 | .int x, .int m=>ob (LP op x m) fun y=>some (.int y,mem,nd)
 | .d i, .d m=>ob (kc op i m nd P.eu) (DO mem nd)
 |_,_=>none
noncomputable def mK(a b:Ty):Bool:=match a,b with
 | .list, .list=>true
 | .dict, .dict=>true
 | .str, .str=>true
 | .tuple, .tuple=>true
 | .bool, .bool=>true
 |_,_=>false
noncomputable def tyO(o:AO)(t:Ty):Option Bool:=match o with
 | .inst _ _=>some false
 | .dict _=>some (mK .dict t)
 | .list _=>some (mK .list t)
 | .tup _=>some (mK .tuple t)
 |_=>none
noncomputable def tyD(g:Tg)(t:Ty):Option Bool:=match g with
 | .none=>some false
 | .str _=>some (mK .str t)
 | .dict _=>some (mK .dict t)
 | .tuple=>some (mK .tuple t)
 |_=>none
noncomputable def UK(P:bA)(mem:Mem)(x:AV)(t:Ty):Option Bool:=match x with
 | .none=>some false
 | .bool _=>some (mK .bool t)
 | .str _=>some (mK .str t)
 | .o i=>ob (mem.get i) fun o=>tyO o t
 | .d i=>tyD (bN P i) t
 |_=>none
noncomputable def clO(P:bA)(C:Addr)(o:AO):Option Bool:=match o with
 | .inst D _=>ob (ah D P.cls) fun ci=>Bool.rec none (some true) (dG C ci.mro)
 |_=>none
noncomputable def clsIn(C:Addr)(l:List (Addr×zU)):Bool:=List.rec false (fun p _ ih=>Bool.rec ih true (dG C p.2.mro)) l
noncomputable def abx(t:Ty):Bool:=match t with
 | .range=>false
 | .enumerate=>false
 |_=>true
noncomputable def sQ(P:bA)(mem:Mem)(x:AV)(c:AV):Option Bool:=match c with
 | .ty t=>Bool.rec none (UK P mem x t) (abx t)
 | .k C=>match x with
  | .none=>Bool.rec none (some false) (clsIn C P.cls)
  | .bool _=>Bool.rec none (some false) (clsIn C P.cls)
  | .str _=>Bool.rec none (some false) (clsIn C P.cls)
  | .o i=>ob (mem.get i) (clO P C)
  |_=>none
 |_=>none
noncomputable def GQ(x:Str)(i:Int):Option AV:=match i with
 | .ofNat n=>short x.cps.toList (ob (FC x.cps.toList n) fun c=>some (.str ⟨#[c]⟩))
 | .negSucc _=>none
noncomputable def UJ(k:Str)(o:AO):Option AV:=match o with
 | .dict es=>bP (code k) es
 | .pmap kn _=>ob (ah (code k) kn) id
 |_=>none
noncomputable def abw(o:AO):Option (List AV):=match o with
 | .list xs=>some xs
 | .tup xs=>some xs
 |_=>none
noncomputable def I8(P:bA)(mem:Mem)(x:AV):Option (List AV):=match x with
 | .o i=>ob (mem.get i) abw
 | .k a=>ah a P.iW
 |_=>none
noncomputable def I9(P:bA)(mem:Mem)(x i:AV):Option AV:=match i with
 | .str k=>match x with
  | .o a=>ob (mem.get a) (UJ k)
  | .d a=>ob (wo a (code k) P.dg) fun r=>ob r fun j=>some (.d j)
  |_=>none
 | .int j=>match x with
  | .str s=>GQ s j
  | .d a=>match j with
   | .ofNat n=>ob (wo a n P.ds) fun j=>some (.d j)
   | .negSucc _=>none
  |x=>match j with
   | .ofNat n=>ob (I8 P mem x) fun xs=>short xs (FC xs n)
   | .negSucc _=>none
 |_=>none
noncomputable def B4(ps:List Nat):List AV->aL:=List.rec (fun _=>[]) (fun p _ ih as=>List.rec [] (fun a r _=>(p,a)::ih r) as) ps
noncomputable def xH(ps:List Nat)(kw:aL):aL->Bool:=List.rec (fun _=>true) (fun kv _ ih sl=>Bool.rec false (Option.rec (ih (sl ++ [kv])) (fun _=>false) (ah kv.1 sl)) (dG kv.1 ps)) kw
noncomputable def FI(ns:List Nat)(sl:aL):Bool:=List.rec true (fun n _ ih=>Option.rec false (fun _=>ih) (ah n sl)) ns
noncomputable def Fb(l:aL):aL->aL:=List.rec (fun sl=>sl) (fun p _ ih sl=>ih (Option.rec (sl ++ [p]) (fun _=>sl) (ah p.1 sl))) l
noncomputable def yC(sl:aL)(ps:List Nat):aL:=List.rec [] (fun p _ ih=>Option.rec ih (fun v=>(p,v)::ih) (ah p sl)) ps
noncomputable def kl(ps:List Nat)(ds pos:List AV)(kw:aL):Option aL:=
 Bool.rec none (some (yC (Fb (B4 (ps.drop (ps.length-ds.length)) ds) (B4 ps pos++kw)) ps))
  (Nat.ble pos.length ps.length&&(Nat.ble ds.length ps.length&&(xH ps kw (B4 ps pos)&&FI (ps.take (ps.length-ds.length)) (B4 ps pos++kw))))
noncomputable abbrev R(α:Type):=Option (α×St)
noncomputable abbrev Ev:=Cx->St->R AV
noncomputable abbrev yf:=Cx->St->R (List AV)
noncomputable abbrev Ts:=Cx->St->R Bool
noncomputable abbrev Xc:=Cx->St->R AF
noncomputable abbrev As:=AV->Cx->St->Option St
noncomputable abbrev we:=AV->List AV->aL->St->R AV
noncomputable def cj{α β:Type}(o:R α)(k:α->St->Option β):Option β:=Option.rec none (fun z=>Prod.rec k z) o
noncomputable def jX(ao:AO)(σ:St):R AV:=some (.o σ.mem.n,⟨σ.loc,σ.mem.push ao,σ.nd⟩)
noncomputable def aB(σ:St)(m:Mem):St:=⟨σ.loc,m,σ.nd⟩
noncomputable def bQ(σ:St)(l:aL):St:=⟨l,σ.mem,σ.nd⟩
noncomputable def ret{α:Type}(σ:St)(o:Option α):R α:=ob o fun v=>some (v,σ)
noncomputable def Hl(σ:St)(o:Option Mem):Option St:=ob o fun m=>some (aB σ m)
noncomputable def ab7(P:bA)(name:Nat)(o:AO):Option AV:=match o with
 | .inst C fs=>ob (ah C P.cls) fun ci=>ob (dH name ci.BZ) fun a=>match a with
  | .own=>ah name fs
  | .val v=>some v
  | .fn _=>none
 |_=>none
noncomputable def vx(P:bA)(mem:Mem)(x:AV)(name:Nat):Option AV:=match x with
 | .o i=>ob (mem.get i) (ab7 P name)
 |_=>none
noncomputable def XD(P:bA)(mem:Mem)(i:Nat)(name:Nat)(v:AV)(o:AO):Option Mem:=match o with
 | .inst C fs=>ob (ah C P.cls) fun ci=>ob (dH name ci.BZ) fun a=>match a with
  | .own=>short fs (some (mem.set i (.inst C (b8 name v fs))))
  |_=>none
 |_=>none
noncomputable def uf(P:bA)(mem:Mem)(x:AV)(name:Nat)(v:AV):Option Mem:=match x with
 | .o i=>ob (mem.get i) (XD P mem i name v)
 |_=>none
noncomputable def CT(mem:Mem)(i:Nat)(k:Str)(v:AV)(o:AO):Option Mem:=match o with
 | .dict es=>short es (some (mem.set i (.dict (jV k v es))))
 | .pmap kn r=>ob (ah (code k) kn) fun _=>short kn (some (mem.set i (.pmap (b8 (code k) (some v) kn) r)))
 |_=>none
noncomputable def ue(mem:Mem)(x k v:AV):Option Mem:=match x with
 | .o i=>match k with
  | .str k=>ob (mem.get i) (CT mem i k v)
  |_=>none
 |_=>none
noncomputable def Fj(mem:Mem)(i:Nat)(k:Str)(o:AO):Option Mem:=match o with
 | .pmap kn r=>ob (ah (code k) kn) fun v=>match v with
  |some _=>short kn (some (mem.set i (.pmap (b8 (code k) none kn) r)))
  |none=>none
 |_=>none
noncomputable def vQ(mem:Mem)(x k:AV):Option Mem:=match x with
 | .o i=>match k with
  | .str k=>ob (mem.get i) (Fj mem i k)
  |_=>none
 |_=>none
noncomputable def n7:Nat:=code (S "append")
noncomputable def n6:Nat:=code (S "extend")
noncomputable def nZ:Nat:=code (S "update")
noncomputable def v7:Nat:=code (S "get")
noncomputable def zl:Nat:=code (S "keys")
noncomputable def n4:Nat:=code (S "startswith")
noncomputable def Cb(es:bk):bk->bk
 | []=>es
 |p::r=>Cb (jV p.2.1 p.2.2 es) r
inductive Bm where
 |append | extend | get | keys | update | starts
inductive BL where
 |fn (f:Addr) | bm (m:Bm)
noncomputable def pick{α:Type}(x y:Nat)(a b:Option α):Option α:=Bool.rec b a (Nat.beq x y)
noncomputable def adj(P:bA)(name:Nat)(o:AO):Option BL:=match o with
 | .inst C _=>ob (ah C P.cls) fun ci=>ob (dH name ci.BZ) fun a=>match a with
  | .fn f=>some (.fn f)
  |_=>none
 | .list _=>pick name n7 (some (.bm .append)) (pick name n6 (some (.bm .extend)) none)
 | .dict _=>pick name v7 (some (.bm .get)) (pick name zl (some (.bm .keys)) (pick name nZ (some (.bm .update)) none))
 | .pmap _ _=>pick name v7 (some (.bm .get)) none
 |_=>none
noncomputable def xW(P:bA)(mem:Mem)(name:Nat)(x:AV):Option BL:=match x with
 | .o i=>ob (mem.get i) (adj P name)
 | .str _=>pick name n4 (some (.bm .starts)) none
 | .d i=>match bN P i with
  | .dict _=>pick name v7 (some (.bm .get)) none
  |_=>none
 |_=>none
noncomputable def It(mem:Mem)(x:AV):Option (Nat×List AV):=match x with
 | .o i=>ob (mem.get i) fun o=>match o with
  | .list xs=>some (i,xs)
  |_=>none
 |_=>none
noncomputable def JJ(mem:Mem)(x:AV):Option (Nat×bk):=match x with
 | .o i=>ob (mem.get i) fun o=>match o with
  | .dict xs=>some (i,xs)
  |_=>none
 |_=>none
noncomputable def Me(σ:St)(es:bk)(k d:AV):R AV:=match k with
 | .str k=>some ((Option.rec d id (bP (code k) es)),σ)
 |_=>none
noncomputable def Ux(σ:St)(es:bk)(pos:List AV):R AV:=match pos with
 | [k]=>Me σ es k .none
 | [k,d]=>Me σ es k d
 |_=>none
noncomputable def LL(σ:St)(kn:List (Nat×Option AV))(k d:AV):R AV:=match k with
 | .str k=>ob (ah (code k) kn) fun v=>some (Option.rec d id v,σ)
 |_=>none
noncomputable def Pg(σ:St)(kn:List (Nat×Option AV))(pos:List AV):R AV:=match pos with
 | [k]=>LL σ kn k .none
 | [k,d]=>LL σ kn k d
 |_=>none
noncomputable def Nb(P:bA)(σ:St)(i:Nat)(k d:AV):R AV:=match k with
 | .str k=>ob (wo i (code k) P.dg) fun v=>some (Option.rec d AV.d v,σ)
 |_=>none
noncomputable def VC(P:bA)(σ:St)(i:Nat)(pos:List AV):R AV:=match pos with
 | [k]=>Nb P σ i k .none
 | [k,d]=>Nb P σ i k d
 |_=>none
noncomputable def runM(P:bA)(σ:St)(m:Bm)(x:AV)(pos:List AV):R AV:=match m with
 | .append=>ob (one pos) fun a=>ob (It σ.mem x) fun p=>short p.2 (some (.none,aB σ (σ.mem.set p.1 (.list (p.2 ++ [a])))))
 | .extend=>ob (one pos) fun a=>ob (It σ.mem x) fun p=>ob (It σ.mem a) fun q=>short p.2 (short q.2 (Bool.rec (some (.none,aB σ (σ.mem.set p.1 (.list (p.2++q.2))))) none (Nat.beq p.1 q.1)))
 | .get=>match x with
  | .d i=>VC P σ i pos
  | .o i=>ob (σ.mem.get i) fun o=>match o with
   | .dict es=>Ux σ es pos
   | .pmap kn _=>Pg σ kn pos
   |_=>none
  |_=>none
 | .keys=>ob (JJ σ.mem x) fun p=>List.rec (jX (.keys p.1) σ) (fun _ _ _=>none) pos
 | .update=>ob (one pos) fun a=>ob (JJ σ.mem x) fun p=>ob (JJ σ.mem a) fun q=>short p.2 (short q.2 (Bool.rec (some (.none,aB σ (σ.mem.set p.1 (.dict (Cb p.2 q.2))))) none (Nat.beq p.1 q.1)))
 | .starts=>match x with
  | .str s=>ob (one pos) fun p=>match p with
   | .str p=>short s.cps.toList (short p.cps.toList (some (.bool (lu p.cps.toList s.cps.toList),σ)))
   |_=>none
  |_=>none
noncomputable def abj(o:AO):Option Nat:=match o with
 | .dict es=>short es (some es.length)
 | .list xs=>short xs (some xs.length)
 | .tup xs=>short xs (some xs.length)
 |_=>none
noncomputable def Mo(mem:Mem)(x:AV):Option Nat:=match x with
 | .o i=>ob (mem.get i) abj
 |_=>none
noncomputable def ltA(a b:AV):Option Bool:=match a,b with
 | .int x, .int y=>some (decide (x<y))
 |_,_=>none
noncomputable def neg(o:Option Bool):Option Bool:=ob o fun b=>some (!b)
noncomputable def isA(P:bA)(a b:AV):Option Bool:=match b with
 | .none=>yV P a
 |_=>none
noncomputable def VH(P:bA)(mem:Mem)(op:CmpOp)(a b:AV):Option Bool:=match op with
 | .Eq=>E2 P mem a b
 | .NotEq=>neg (E5 P 12 mem a b)
 | .In=>inA P mem a b
 | .NotIn=>neg (inA P mem a b)
 | .Is=>isA P a b
 | .IsNot=>neg (isA P a b)
 | .Lt=>ltA a b
 | .Gt=>ltA b a
 |_=>none
noncomputable def fm(binds:aL):Nat->List Nat->List (Nat×Nat)×List AO
 |_,[]=>([],[])
 |n,x::r=>((x,n)::(fm binds (n+1) r).1,(Option.rec .cy AO.cell (ah x binds))::(fm binds (n+1) r).2)
noncomputable def fy(cells:List Nat):aL->aL
 | []=>[]
 |p::r=>Bool.rec (p::fy cells r) (fy cells r) (dG p.1 cells)
noncomputable def za:List AV->bk->Option bk
 | [],es=>some es
 |a::r,es=>match a with
  | .str k=>match r with
   |v::r=>Option.rec (za r (es ++ [(code k,k,v)])) (fun _=>none) (bP (code k) es)
   | []=>none
  |_=>none
noncomputable def uV:Ev:=fun _ _=>none
noncomputable def BY(a:AV):Ev:=fun _ σ=>some (a,σ)
noncomputable def UB(cx:Cx)(σ:St)(x:Nat):Option AV:=Option.rec (ah x σ.loc) (fun _=>none) cx.comp
noncomputable def Vs(x:Nat):Ev:=fun cx σ=>ret σ (UB cx σ x)
noncomputable def Jy(o:AO):Option AV:=match o with
 | .cell v=>some v
 |_=>none
noncomputable def ac5(x:Nat):Ev:=fun cx σ=>ret σ (ob (ah x cx.cells) fun c=>ob (σ.mem.get c) Jy)
noncomputable def MX(x:Nat):Ev:=fun cx σ=>ret σ (ob cx.comp fun p=>Bool.rec none (some p.2) (Nat.beq p.1 x))
noncomputable def Jt(P:bA)(f:Ev):Ev:=fun cx σ=>cj (f cx σ) fun a σ=>ret σ (ob (rX P σ.mem a) fun b=>some (.bool (!b)))
noncomputable def Vt(t:Ts)(b o:Ev):Ev:=fun cx σ=>cj (t cx σ) fun c σ=>Bool.rec (o cx σ) (b cx σ) c
noncomputable def Jv(P:bA)(op:Operator)(l r:Ev):Ev:=fun cx σ=>cj (l cx σ) fun a σ=>cj (r cx σ) fun b σ=>
 ob (Nn P σ.mem σ.nd op a b) fun z=>some (z.1,⟨σ.loc,z.2.1,z.2.2⟩)
noncomputable def Cn(P:bA)(op:CmpOp)(l r:Ev):Ts:=fun cx σ=>cj (l cx σ) fun a σ=>cj (r cx σ) fun b σ=>ret σ (VH P σ.mem op a b)
noncomputable def Ju(P:bA)(op:CmpOp)(l r:Ev):Ev:=fun cx σ=>cj (Cn P op l r cx σ) fun b σ=>some (.bool b,σ)
noncomputable def EX(es:yf):Ev:=fun cx σ=>cj (es cx σ) fun as σ=>short as (jX (.list as) σ)
noncomputable def Jr(es:yf):Ev:=fun cx σ=>cj (es cx σ) fun as σ=>short as (jX (.tup as) σ)
noncomputable def xO(ps:yf):Ev:=fun cx σ=>cj (ps cx σ) fun as aF=>ob (za as []) fun es=>short es (jX (.dict es) aF)
noncomputable def E1(P:bA)(f:Ev)(x:Nat):Ev:=fun cx σ=>cj (f cx σ) fun a σ=>ret σ (vx P σ.mem a x)
noncomputable def VD(σ:St)(o:AO):R AV:=match o with
 | .list xs=>short xs (jX (.list xs) σ)
 |_=>none
noncomputable def VE(σ:St)(a:AV):R AV:=match a with
 | .o i=>ob (σ.mem.get i) (VD σ)
 |_=>none
noncomputable def EZ(f:Ev):Ev:=fun cx σ=>cj (f cx σ) fun a σ=>VE σ a
noncomputable def Js(P:bA)(f i:Ev):Ev:=fun cx σ=>cj (f cx σ) fun a σ=>cj (i cx σ) fun b σ=>ret σ (I9 P σ.mem a b)
noncomputable def sW:yf:=fun _ σ=>some ([],σ)
noncomputable def zb(f:Ev)(g:yf):yf:=fun cx σ=>cj (f cx σ) fun a σ=>cj (g cx σ) fun as σ=>some (a::as,σ)
noncomputable def yA(k v:Ev)(g:yf):yf:=fun cx σ=>cj (k cx σ) fun a σ=>cj (v cx σ) fun b σ=>cj (g cx σ) fun as σ=>some (a::b::as,σ)
noncomputable abbrev J6:=Cx->St->R aL
noncomputable def Ee:J6:=fun _ σ=>some ([],σ)
noncomputable def yO(x:Nat)(f:Ev)(g:J6):J6:=fun cx σ=>cj (f cx σ) fun a σ=>cj (g cx σ) fun as σ=>some ((x,a)::as,σ)
noncomputable def E0(H:we)(f:Ev)(as:yf)(ks:J6):Ev:=fun cx σ=>cj (f cx σ) fun a σ=>cj (as cx σ) fun vs σ=>cj (ks cx σ) fun kw σ=>H a vs kw σ
noncomputable def oZ(kw:aL)(r:R AV):R AV:=List.rec r (fun _ _ _=>none) kw
noncomputable def Fy(P:bA)(H:we)(c:BL)(x:AV)(pos:List AV)(kw:aL)(σ:St):R AV:=match c with
 | .fn f=>H (.k f) (x::pos) kw σ
 | .bm m=>oZ kw (runM P σ m x pos)
noncomputable def EW(P:bA)(H:we)(f:Ev)(name:Nat)(as:yf)(ks:J6):Ev:=fun cx σ=>cj (f cx σ) fun a σ=>ob (xW P σ.mem name a) fun c=>cj (as cx σ) fun vs σ=>cj (ks cx σ) fun kw σ=>Fy P H c a vs kw σ
noncomputable def Cm(P:bA)(f:Ev):Ts:=fun cx σ=>cj (f cx σ) fun a σ=>ret σ (rX P σ.mem a)
noncomputable def IM(t:Ts):Ts:=fun cx σ=>cj (t cx σ) fun b σ=>some (!b,σ)
noncomputable def JL(op:BoolOp):Ts:=fun _ σ=>BoolOp.rec (some (true,σ)) (some (false,σ)) op
noncomputable def FJ(t r:Ts)(op:BoolOp):Ts:=fun cx σ=>cj (t cx σ) fun b σ=>BoolOp.rec (Bool.rec (some (false,σ)) (r cx σ) b) (Bool.rec (r cx σ) (some (true,σ)) b) op
noncomputable def xX(P:bA)(f r:Ev)(op:BoolOp):Ev:=fun cx σ=>cj (f cx σ) fun a σ=>ob (rX P σ.mem a) fun b=>
 BoolOp.rec (Bool.rec (some (a,σ)) (r cx σ) b) (Bool.rec (r cx σ) (some (a,σ)) b) op
noncomputable def V4(x:Nat):As:=fun v cx σ=>Option.rec (some (bQ σ (b8 x v σ.loc))) (fun _=>none) cx.comp
noncomputable def zk(o:AO):Bool:=match o with
 | .cell _=>true
 | .cy=>true
 |_=>false
noncomputable def V5(x:Nat):As:=fun v cx σ=>Option.rec (ob (ah x cx.cells) fun c=>ob (σ.mem.get c) fun o=>Bool.rec none (some (aB σ (σ.mem.set c (.cell v)))) (zk o)) (fun _=>none) cx.comp
noncomputable def FH(P:bA)(f:Ev)(x:Nat):As:=fun v cx σ=>cj (f cx σ) fun a σ=>Hl σ (uf P σ.mem a x v)
noncomputable def JH(f i:Ev):As:=fun v cx σ=>cj (f cx σ) fun a σ=>cj (i cx σ) fun b σ=>Hl σ (ue σ.mem a b v)
noncomputable def Xs(o:AO):Option (List AV):=match o with
 | .tup xs=>some xs
 |_=>none
noncomputable def OA(P:bA)(mem:Mem)(x:AV):Option (List AV):=match x with
 | .o i=>ob (mem.get i) Xs
 | .k a=>ah a P.iW
 |_=>none
noncomputable abbrev Gl:=List AV->Cx->St->Option St
noncomputable def JG(P:bA)(g:Gl):As:=fun v cx σ=>ob (OA P σ.mem v) fun xs=>g xs cx σ
noncomputable def xZ:Gl:=fun vs _ σ=>List.rec (some σ) (fun _ _ _=>none) vs
noncomputable def n8(f:As)(g:Gl):Gl:=fun vs cx σ=>List.rec none (fun v vs _=>ob (f v cx σ) fun σ=>g vs cx σ) vs
noncomputable def II:Xc:=fun _ σ=>some (.next,σ)
noncomputable def IL:Xc:=fun _ σ=>some (.cont,σ)
noncomputable def IH:Xc:=fun _ σ=>some (.ret .none,σ)
noncomputable def Ow(f:Ev):Xc:=fun cx σ=>cj (f cx σ) fun a σ=>some (.ret a,σ)
noncomputable def IK(f:Ev):Xc:=fun cx σ=>cj (f cx σ) fun _ σ=>some (.next,σ)
noncomputable def Kc(t:As)(f:Ev):Xc:=fun cx σ=>cj (f cx σ) fun a σ=>ob (t a cx σ) fun σ=>some (.next,σ)
noncomputable def NM(t:Ts)(b o:Xc):Xc:=fun cx σ=>cj (t cx σ) fun c σ=>Bool.rec (o cx σ) (b cx σ) c
noncomputable def Oy(f i:Ev):Xc:=fun cx σ=>cj (f cx σ) fun a σ=>cj (i cx σ) fun b σ=>ob (Hl σ (vQ σ.mem a b)) fun σ=>some (.next,σ)
noncomputable def n9:Xc:=fun _ σ=>some (.next,σ)
noncomputable def XF(r:Xc)(cx:Cx)(fl:AF)(σ:St):R AF:=match fl with
 | .next=>r cx σ
 |fl=>some (fl,σ)
noncomputable def jc(f r:Xc):Xc:=fun cx σ=>cj (f cx σ) (XF r cx)
noncomputable def yj(next:St->R AF)(fl:AF)(σ:St):R AF:=match fl with
 | .next=>next σ
 | .cont=>next σ
 | .brk=>some (.next,σ)
 | .ret v=>some (.ret v,σ)
noncomputable def abv(o:AO):Option (List AV):=match o with
 | .list xs=>some xs
 | .tup xs=>some xs
 | .range n=>some (upTo n 0)
 |_=>none
noncomputable def vd(P:bA)(mem:Mem)(x:AV):Option (List AV):=match x with
 | .o i=>ob (mem.get i) abv
 | .k a=>ah a P.iW
 |_=>none
noncomputable def hide(m:Mem)(x:AV):Mem:=match x with
 | .o i=>m.set i .gone
 |_=>m
noncomputable def iK(m₀ m:Mem)(x:AV):Option Mem:=match x with
 | .o i=>ob (m₀.get i) fun o=>some (m.set i o)
 |_=>some m
noncomputable def turns(t:As)(body:Xc)(cx:Cx)(xs:List AV):St->R AF:=
 List.rec (fun σ=>some (.next,σ)) (fun v _ ih σ=>ob (t v cx σ) fun σ=>cj (body cx σ) (yj ih)) xs
noncomputable def Ox(P:bA)(t:As)(it:Ev)(body:Xc):Xc:=fun cx σ=>cj (it cx σ) fun x σ=>ob (vd P σ.mem x) fun xs=>short xs<|Option.rec
 (cj (turns t body cx xs (aB σ (hide σ.mem x))) fun fl aF=>ob (iK σ.mem aF.mem x) fun m=>some (fl,aB aF m)) (fun _=>none) cx.comp
noncomputable def rU(t:Gl)(body:Xc)(cx:Cx)(es:bk):St->R AF:=
 List.rec (fun σ=>some (.next,σ)) (fun p _ ih σ=>ob (t [.str p.2.1,p.2.2] cx σ) fun σ=>cj (body cx σ) (yj ih)) es
noncomputable def IJ(t:Gl)(it:Ev)(body:Xc):Xc:=fun cx σ=>cj (it cx σ) fun x σ=>ob (JJ σ.mem x) fun p=>short p.2<|Option.rec
 (cj (rU t body cx p.2 (aB σ (hide σ.mem x))) fun fl aF=>ob (iK σ.mem aF.mem x) fun m=>some (fl,aB aF m)) (fun _=>none) cx.comp
noncomputable def jz(c:Option Ts)(elt:Ev)(x:Nat)(cx:Cx)(xs:List AV):St->R (List AV):=
 List.rec (fun σ=>some ([],σ)) (fun v _ ih σ=>
  Option.rec (cj (elt ⟨cx.cells,some (x,v)⟩ σ) fun a σ=>cj (ih σ) fun as σ=>some (a::as,σ))
   (fun c=>cj (c ⟨cx.cells,some (x,v)⟩ σ) fun b σ=>Bool.rec (ih σ) (cj (elt ⟨cx.cells,some (x,v)⟩ σ) fun a σ=>cj (ih σ) fun as σ=>some (a::as,σ)) b) c) xs
noncomputable def Bh(P:bA)(elt:Ev)(x:Nat)(iter:Ev)(c:Option Ts):Ev:=fun cx σ=>Option.rec
 (cj (iter cx σ) fun src σ=>ob (vd P σ.mem src) fun xs=>short xs (cj (jz c elt x cx xs (aB σ (hide σ.mem src))) fun as aF=>short as (cj (jX (.list as) aF) fun v mv=>ob (iK σ.mem mv.mem src) fun m=>some (v,aB mv m))))
 (fun _=>none) cx.comp
structure Den where
 ev:Ev
 ts:Ts
 sX:yf
 NW:J6
 al:BoolOp->Ts
 bo:BoolOp->Ev
 ex:Xc
 qw:Xc
 asg:As
 BE:Gl
 c1:Option (Option Ts)
noncomputable def uU:Ts:=fun _ _=>none
noncomputable def LY:yf:=fun _ _=>none
noncomputable def L1:J6:=fun _ _=>none
noncomputable def wq:Xc:=fun _ _=>none
noncomputable def F3:As:=fun _ _ _=>none
noncomputable def xl:Gl:=fun _ _ _=>none
noncomputable def kN(P:bA)(f:Ev):Den:=⟨f,Cm P f,LY,L1,fun _=>uU,fun _=>uV,wq,wq,F3,xl,none⟩
noncomputable def Ia(f:Ev)(t:Ts):Den:=⟨f,t,LY,L1,fun _=>uU,fun _=>uV,wq,wq,F3,xl,none⟩
noncomputable def qx(f:Xc):Den:=⟨uV,uU,LY,L1,fun _=>uU,fun _=>uV,f,wq,F3,xl,none⟩
noncomputable def Fh(f:As):Den:=⟨uV,uU,LY,L1,fun _=>uU,fun _=>uV,wq,wq,f,xl,none⟩
noncomputable def M9:Den:=⟨uV,uU,LY,L1,fun _=>uU,fun _=>uV,wq,wq,F3,xl,none⟩
noncomputable def isNil:PE->Bool
 | .nil=>true
 |_=>false
noncomputable def EY(P:bA)(elt:Ev)(x:Nat)(iter:Ev)(c:Option (Option Ts)):Ev:=Option.rec uV (fun c=>Bh P elt x iter c) c
noncomputable def den(P:bA)(H:we):PE->Den
 | .k a=>kN P (BY a)
 | .loc x=>kN P (Vs x)
 | .cl x=>kN P (ac5 x)
 | .VI x=>kN P (MX x)
 | .bop op es=>Ia ((den P H es).bo op) ((den P H es).al op)
 | .not x=>Ia (Jt P (den P H x).ev) (IM (den P H x).ts)
 | .ife t b o=>Ia (Vt (den P H t).ts (den P H b).ev (den P H o).ev) uU
 | .bin op l r=>kN P (Jv P op (den P H l).ev (den P H r).ev)
 | .cmp op l r=>Ia (Ju P op (den P H l).ev (den P H r).ev) (Cn P op (den P H l).ev (den P H r).ev)
 | .list es=>kN P (EX (den P H es).sX)
 | .tup es=>kN P (Jr (den P H es).sX)
 | .dict ps=>kN P (xO (den P H ps).sX)
 | .attr x n=>kN P (E1 P (den P H x).ev n)
 | .copy x=>kN P (EZ (den P H x).ev)
 | .sub x i=>kN P (Js P (den P H x).ev (den P H i).ev)
 | .call f as ks=>kN P (E0 H (den P H f).ev (den P H as).sX (den P H ks).NW)
 | .Mc f n as ks=>kN P (EW P H (den P H f).ev n (den P H as).sX (den P H ks).NW)
 | .lc elt x iter ifs=>kN P (EY P (den P H elt).ev x (den P H iter).ev (den P H ifs).c1)
 | .nil=>⟨uV,uU,sW,Ee,JL,fun _=>uV,wq,n9,F3,xZ,some none⟩
 | .cons a r=>⟨uV,uU,zb (den P H a).ev (den P H r).sX,L1,fun op=>FJ (den P H a).ts ((den P H r).al op) op,
   fun op=>Bool.rec (xX P (den P H a).ev ((den P H r).bo op) op) (den P H a).ev (isNil r),wq,jc (den P H a).ex (den P H r).qw,F3,n8 (den P H a).asg (den P H r).BE,
   Bool.rec none (some (some (den P H a).ts)) (isNil r)⟩
 | .kw x e r=>⟨uV,uU,LY,yO x (den P H e).ev (den P H r).NW,fun _=>uU,fun _=>uV,wq,wq,F3,xl,none⟩
 | .pair k v r=>⟨uV,uU,yA (den P H k).ev (den P H v).ev (den P H r).sX,L1,fun _=>uU,fun _=>uV,wq,wq,F3,xl,none⟩
 | .pass=>qx II
 | .cont=>qx IL
 | .O9=>qx IH
 | .ret e=>qx (Ow (den P H e).ev)
 | .expr e=>qx (IK (den P H e).ev)
 | .asg t e=>qx (Kc (den P H t).asg (den P H e).ev)
 | .cond t b o=>qx (NM (den P H t).ts (den P H b).qw (den P H o).qw)
 | .del x i=>qx (Oy (den P H x).ev (den P H i).ev)
 | .loop t it body=>qx (Ox P (den P H t).asg (den P H it).ev (den P H body).qw)
 | .D7 t e body=>qx (IJ (den P H t).BE (den P H e).ev (den P H body).qw)
 | .tn x=>Fh (V4 x)
 | .tcl x=>Fh (V5 x)
 | .Cq e x=>Fh (FH P (den P H e).ev x)
 | .OC e i=>Fh (JH (den P H e).ev (den P H i).ev)
 | .Ki ts=>Fh (JG P (den P H ts).BE)
 | .bad=>M9
noncomputable def back(l:aL)(fl:AF)(aF:St):R AV:=match fl with
 | .ret v=>some (v,bQ aF l)
 | .next=>some (.none,bQ aF l)
 |_=>none
noncomputable def enter(fi:eV)(body:Xc)(σ:St)(binds:aL):R AV:=List.rec
 (cj (body ⟨[],none⟩ (bQ σ binds)) (back σ.loc))
 (fun _ _ _=>cj (body ⟨(fm binds σ.mem.n fi.cells).1,none⟩ ⟨fy fi.cells binds,σ.mem.j8 (fm binds σ.mem.n fi.cells).2,σ.nd⟩) (back σ.loc)) fi.cells
noncomputable def mU(P:bA)(H:we)(fi:eV)(pos:List AV)(kw:aL)(σ:St):R AV:=
 ob (kl fi.params fi.ki pos kw) (enter fi (den P H fi.body).qw σ)
noncomputable def isNone(v:AV):Bool:=match v with
 | .none=>true
 |_=>false
noncomputable def tj(P:bA)(H:we)(a:Addr)(pos:List AV)(kw:aL)(σ:St):R AV:=ob (ah a P.cls) fun ci=>ob (dH ci.init P.fns) fun fi=>
 cj (mU P H fi (.o σ.mem.n::pos) kw (aB σ (σ.mem.push (.inst a [])))) fun v aF=>Bool.rec none (some (.o σ.mem.n,aF)) (isNone v)
noncomputable def vY(P:bA)(H:we)(a:Addr)(pos:List AV)(kw:aL)(σ:St):R AV:=Option.rec
 (tj P H a pos kw σ)
 (fun fi=>Option.rec (mU P H fi pos kw σ) (fun z=>oZ kw (some (z.1,⟨σ.loc,z.2.1,z.2.2⟩))) (P.spec a pos σ.mem σ.nd)) (dH a P.fns)
noncomputable def two{α β:Type}(l:List α)(f:α->α->Option β):Option β:=match l with
 | [a,b]=>f a b
 |_=>none
noncomputable def JB(P:bA)(b:Bi)(pos:List AV)(σ:St):R AV:=match b with
 | .isinstance=>ret σ (two pos fun x c=>ob (sQ P σ.mem x c) fun b=>some (.bool b))
 | .len=>ret σ (ob (one pos) fun x=>ob (Mo σ.mem x) fun n=>some (.int n))
noncomputable def Dv(x:AV):Option Nat:=match x with
 | .int (.ofNat n)=>Bool.rec none (some n) (Nat.ble n 100)
 |_=>none
noncomputable def Jz(P:bA)(t:Ty)(pos:List AV)(σ:St):R AV:=ob (one pos) fun x=>match t with
 | .list=>ob (IU P σ.mem x) fun xs=>short xs (jX (.list xs) σ)
 | .tuple=>ob (It σ.mem x) fun p=>short p.2 (jX (.tup p.2) σ)
 | .range=>ob (Dv x) fun n=>jX (.range n) σ
 |_=>none
noncomputable def JA(P:bA)(H:we)(f:AV)(pos:List AV)(kw:aL)(σ:St):R AV:=match f with
 | .k a=>vY P H a pos kw σ
 | .bi b=>oZ kw (JB P b pos σ)
 | .ty t=>oZ kw (Jz P t pos σ)
 |_=>none
noncomputable def cH(P:bA)(n:Nat):we:=Nat.rec (fun _ _ _ _=>none) (fun _ ih=>JA P ih) n
end
theorem ru:ni []=0:=rfl
theorem iE(a:Nat)(r:List Nat):ni (a::r)=2 ^ a*(2*ni r+1):=rfl
theorem m6:∀(a b x y:Nat),2 ^ a*(2*x+1)=2 ^ b*(2*y+1)->a=b/\x=y
 | 0,0,x,y,h=>by simp at h;exact ⟨rfl,by omega⟩
 | 0,b+1,x,y,h=>by
  exfalso
  replace h:=(Nat.pow_succ ..)▸h;replace h:=(Nat.mul_comm (2 ^ b) 2 ..)▸h;replace h:=(Nat.mul_assoc ..)▸h
  simp at h;omega
 |a+1,0,x,y,h=>by
  exfalso
  replace h:=(Nat.pow_succ ..)▸h;replace h:=(Nat.mul_comm (2 ^ a) 2 ..)▸h;replace h:=(Nat.mul_assoc ..)▸h
  simp at h;omega
 |a+1,b+1,x,y,h=>by
  replace h:=(Nat.pow_succ ..)▸h;replace h:=(Nat.pow_succ ..)▸h;replace h:=(Nat.mul_comm (2 ^ a) 2 ..)▸h;replace h:=(Nat.mul_comm (2 ^ b) 2 ..)▸h;replace h:=(Nat.mul_assoc ..)▸h;replace h:=(Nat.mul_assoc ..)▸h
  have:=m6 a b x y (Nat.eq_of_mul_eq_mul_left (by decide) h)
  exact ⟨by exact aa this.1 rfl,this.2⟩
theorem rx:∀{a b:List Nat},ni a=ni b->a=b
 | [],[],_=>rfl
 | [],b::q,h=>by
  replace h:=(ru ..)▸h;replace h:=(iE ..)▸h
  have:=Nat.mul_pos (Nat.two_pow_pos b) (Nat.succ_pos (2*ni q));replace this:=(Nat.succ_eq_add_one ..)▸this;replace this:=(Eq.symm (h ..))▸this;exact absurd this (Nat.lt_irrefl 0)
 |a::r,[],h=>by
  replace h:=(ru ..)▸h;replace h:=(iE ..)▸h
  have:=Nat.mul_pos (Nat.two_pow_pos a) (Nat.succ_pos (2*ni r));replace this:=(Nat.succ_eq_add_one ..)▸this;replace this:=(h ..)▸this;exact absurd this (Nat.lt_irrefl 0)
 |a::r,b::q,h=>by
  replace h:=(iE ..)▸h;replace h:=(iE ..)▸h
  refine aM (m6 _ _ _ _ h) fun e1 e2=>?_
  exact aa e1 (aa (rx e2) rfl)
theorem code_inj(h:code a=code b):a=b:=by
 have:=rx h
 cases a;cases b
 simp only [Str.mk.injEq]
 exact Array.ext' this
theorem eT(a b:Nat):Nat.beq a b=decide (a=b):=by
 by_cases h:a=b
 ·subst h;simp [Nat.beq_refl]
 ·refine aa (decide_eq_false h) ?_
  generalize q:Nat.beq a b=bZ;induction bZ with
  |false=>rfl
  |true=>exact absurd (iL q) h
theorem IT(a b:Str):sq a b=(a==b):=by
 unfold sq;refine aa (eT ..) ?_
 by_cases h:a=b
 ·subst h;simp
 ·have:code a≠code b:=fun e=>h (code_inj e)
  refine aa (decide_eq_false this ..) ?_;exact (beq_eq_false_iff_ne.mpr h).symm
theorem ib(x:Nat):ah x ([]:List (Nat×α))=none:=rfl
theorem aI(x a:Nat)(b:α)(l:List (Nat×α)):ah x ((a,b)::l)=if a=x then some b else ah x l:=by
 show (Bool.rec (ah x l) (some b) (Nat.beq a x):Option α)=_
 refine aa (eT ..) ?_
 by_cases h:a=x<;>simp [h]
theorem cM(x:Str):∀l:List (Str×NameKind),iN (code x) l=l.lookup x
 | []=>rfl
 |(a,b)::l=>by
  show (Bool.rec (iN (code x) l) (some b) (Nat.beq (code a) (code x)):Option NameKind)=_
  refine aa (eT ..) (aa (cM x l ..) (aa (List.lookup_cons ..) ?_))
  by_cases h:x=a
  ·subst h;simp
  ·have:code a≠code x:=fun e=>h (code_inj e).symm
   exact aa (decide_eq_false this ..) (aa (beq_eq_false_iff_ne.mpr h ..) rfl)
theorem ux(x:Nat)(v:α):b8 x v []=[(x,v)]:=rfl
theorem eZ(x a:Nat)(b v:α)(l:List (Nat×α)):b8 x v ((a,b)::l)=if a=x then (a,v)::l else (a,b)::b8 x v l:=by
 show (Bool.rec ((a,b)::b8 x v l) ((a,v)::l) (Nat.beq a x):List (Nat×α))=_
 refine aa (eT ..) ?_
 by_cases h:a=x<;>simp [h]
theorem cU(x y:Nat)(v:α):∀l:List (Nat×α),ah y (b8 x v l)=if x=y then some v else ah y l
 | []=>by exact aa (ux ..) (aa (aI ..) (aa (ib ..) rfl))
 |(a,b)::l=>by
  refine aa (eZ ..) ?_
  by_cases h:a=x
  ·refine aa (if_pos h ..) (aa (aI ..) (aa (aI ..) ?_))
   by_cases e:a=y
   ·simp [e,<-h]
   ·exact aa (if_neg e) (aa (if_neg e) (aa (if_neg (by rw [<-h];exact e)) rfl))
  ·refine aa (if_neg h ..) (aa (aI ..) (aa (aI ..) (aa (cU x y v l ..) ?_)))
   by_cases e:a=y
   ·exact aa (if_pos e) (aa (if_pos e) (aa (if_neg (fun q=>h (e.trans q.symm))) rfl))
   ·exact aa (if_neg e) (aa (if_neg e) rfl)
theorem mJ(x:Nat):bP x []=none:=rfl
theorem df(x a:Nat)(s:Str)(v:AV)(l:bk):bP x ((a,s,v)::l)=if a=x then some v else bP x l:=by
 show (Bool.rec (bP x l) (some v) (Nat.beq a x):Option AV)=_
 refine aa (eT ..) ?_
 by_cases h:a=x<;>simp [h]
theorem oQ(s:Str)(v:AV):jV s v []=[(code s,s,v)]:=rfl
theorem mE(s t:Str)(a:Nat)(u v:AV)(l:bk):jV s v ((a,t,u)::l)=if a=code s then (a,t,v)::l else (a,t,u)::jV s v l:=by
 show (Bool.rec ((a,t,u)::jV s v l) ((a,t,v)::l) (Nat.beq a (code s)):bk)=_
 refine aa (eT ..) ?_
 by_cases h:a=code s<;>simp [h]
theorem D6(x:Nat):dG x []=false:=rfl
theorem AE(x y:Nat)(l:List Nat):dG x (y::l)=(decide (y=x)||dG x l):=by
 show (Bool.rec (dG x l) true (Nat.beq y x):Bool)=_
 refine aa (eT ..) ?_
 by_cases h:y=x<;>simp [h]
theorem dF(x:Nat):∀l:List Nat,dG x l=true<->x∈l
 | []=>by simp [D6]
 |y::l=>by rw [AE,Bool.or_eq_true,decide_eq_true_eq,dF x l,List.mem_cons];exact or_congr_left eq_comm
theorem Iq(i:Nat):FC ([]:List α) i=none:=rfl
theorem qb:∀(l:List α) (i:Nat),FC l i=l[i]?
 | [],_=>by simp [Iq]
 |a::l,0=>rfl
 |a::l,i+1=>by
  show FC l i=_
  refine aa (qb l i) ?_;simp
theorem ab{C:Prop}(h:ob o f=some b)(k:∀a,o=some a->f a=some b->C):C:=by
 induction o with
 |none=>exact zS h
 |some a=>exact k a rfl h
theorem oz(h:short l r=some b):l.length<=900/\r=some b:=by
 unfold short at h
 generalize q:Nat.ble l.length 900=ir;induction ir with
 |false=>replace h:=q▸h;exact zS h
 |true=>replace h:=q▸h;exact ⟨zd q,h⟩
theorem au{C:Prop}(h:short l r=some b)(k:l.length<=900->r=some b->C):C:=k (oz h).1 (oz h).2
theorem l4(h:cj o k=some b):∃a σ,o=some (a,σ)/\k a σ=some b:=by
 induction o with
 |none=>exact zS h
 |some z=>exact ⟨z.1,z.2,rfl,h⟩
theorem af{C:Prop}(h:cj o k=some b)(c:∀a σ,o=some (a,σ)->k a σ=some b->C):C:=by
 induction o with
 |none=>exact zS h
 |some z=>exact c z.1 z.2 rfl h
theorem uo(h:ret σ o=some (a,aF)):o=some a/\aF=σ:=by
 refine ab h fun b e q=>?_;clear h
 refine eO q fun b7 cw=>?_;clear q;subst b7 cw;exact ⟨e,rfl⟩
theorem b9{C:Prop}(h:ret σ o=some (a,aF))(k:o=some a->aF=σ->C):C:=k (uo h).1 (uo h).2
theorem kC{C:Prop}(h:Hl σ o=some aF)(k:∀m,o=some m->aF=aB σ m->C):C:=ab h fun b e q=>k b e (aH q).symm
theorem lV(i:Nat):iY .nil i=none:=rfl
theorem cu(v:AO)(l r:MT)(i:Nat):iY (.node v l r) i=match i with | 0=>some v | j+1=>if j%2=0 then iY l (j/2) else iY r (j/2):=by
 induction i using Nat.casesOn with
 |zero=>rfl
 |succ j=>
  show (Nat.rec (iY l (j/2)) (fun _ _=>iY r (j/2)) (j%2):Option AO)=_
  rcases Nat.mod_two_eq_zero_or_one j with h | h<;>simp [h]<;>rfl
theorem qL(v:AO)(l r:MT)(i:Nat)(o:AO):wM (.node v l r) i o=match i with | 0=> .node o l r | j+1=>if j%2=0 then .node v (wM l (j/2) o) r else .node v l (wM r (j/2) o):=by
 induction i using Nat.casesOn with
 |zero=>rfl
 |succ j=>
  show (Nat.rec (MT.node v (wM l (j/2) o) r) (fun _ _=>MT.node v l (wM r (j/2) o)) (j%2):MT)=_
  rcases Nat.mod_two_eq_zero_or_one j with h | h<;>simp [h]<;>rfl
theorem AS(v:AO)(l r:MT)(i:Nat)(o:AO):xy (.node v l r) i o=match i with | 0=> .node o l r | j+1=>if j%2=0 then .node v (xy l (j/2) o) r else .node v l (xy r (j/2) o):=by
 induction i using Nat.casesOn with
 |zero=>rfl
 |succ j=>
  show (Nat.rec (MT.node v (xy l (j/2) o) r) (fun _ _=>MT.node v l (xy r (j/2) o)) (j%2):MT)=_
  rcases Nat.mod_two_eq_zero_or_one j with h | h<;>simp [h]<;>rfl
theorem lQ(h:i%2=j%2)(e:i/2=j/2):i=j:=by omega
theorem mN(o:AO):∀(t:MT) (i j:Nat),iY (wM t i o) j=if j=i then (iY t i).map (fun _=>o) else iY t j
 | .nil,i,j=>by
  show iY .nil j=_
  by_cases h:j=i<;>simp [h,lV]
 | .node v l r,0,j=>by
  refine aa (qL ..) (aa (cu ..) ?_)
  induction j using Nat.casesOn with
  |zero=>simp [cu]
  |succ j=>simp [cu]
 | .node v l r,i+1,j=>by
  refine aa (qL ..) ?_
  by_cases hi:i%2=0
  ·simp only [hi,if_true,cu]
   induction j using Nat.casesOn with
   |zero=>simp
   |succ j=>
    dsimp only
    by_cases hj:j%2=0
    ·simp only [hj,if_true]
     refine aa (mN o l ..) ?_
     by_cases e:j=i
     ·subst e;simp
     ·have:¬ j/2=i/2:=fun q=>e (lQ (hj.trans hi.symm) q)
      simp [e,this]
    ·have:¬ j=i:=by rintro rfl;exact hj hi
     simp [hj,this]
  ·simp only [hi,if_false,cu]
   induction j using Nat.casesOn with
   |zero=>simp
   |succ j=>
    dsimp only
    by_cases hj:j%2=0
    ·have:¬ j=i:=by rintro rfl;exact hi hj
     simp [hj,this]
    ·simp only [hj,if_false]
     refine aa (mN o r ..) ?_
     by_cases e:j=i
     ·subst e;simp
     ·have:¬ j/2=i/2:=fun q=>e (lQ ((Nat.mod_two_ne_zero.mp hj).trans (Nat.mod_two_ne_zero.mp hi).symm) q)
      simp [e,this]
theorem mO(o:AO):∀(t:MT) (n j:Nat),(∀i,(iY t i).isSome=true<->i<n)->iY (xy t n o) j=if j=n then some o else iY t j
 | .nil,n,j,H=>by
  have hn:n=0:=by
   rcases Nat.eq_zero_or_pos n with h | h
   ·exact h
   ·have:=(H 0).mpr h;simp [lV] at this
  subst hn
  show iY (.node o .nil .nil) j=_
  refine aa (cu ..) ?_
  induction j using Nat.casesOn with
  |zero=>simp
  |succ j=>simp [lV]
 | .node v l r,0,j,H=>by
  have:=(H 0).mp (by refine aa (cu ..) ?_;rfl)
  exact absurd this (Nat.lt_irrefl _)
 | .node v l r,n+1,j,H=>by
  refine aa (AS ..) ?_
  by_cases hi:n%2=0
  ·have H':∀i,(iY l i).isSome=true<->i<n/2:=fun i=>by
    have:=H (2*i+1)
    replace this:=(cu ..)▸this
    simp only [Nat.mul_mod_right,if_true,Nat.mul_div_cancel_left i (by decide:0<2)] at this
    rw [this];omega
   simp only [hi,if_true,cu]
   induction j using Nat.casesOn with
   |zero=>simp
   |succ j=>
    dsimp only
    by_cases hj:j%2=0
    ·simp only [hj,if_true]
     refine aa (mO o l _ _ H') ?_
     by_cases e:j=n
     ·subst e;simp
     ·have:¬ j/2=n/2:=fun q=>e (lQ (hj.trans hi.symm) q)
      simp [e,this]
    ·have:¬ j=n:=by rintro rfl;exact hj hi
     simp [hj,this]
  ·have H':∀i,(iY r i).isSome=true<->i<n/2:=fun i=>by
    have:=H (2*i+1+1)
    replace this:=(cu ..)▸this
    have e1:¬ (2*i+1)%2=0:=by omega
    have e2:(2*i+1)/2=i:=by omega
    simp only [e1,if_false,e2] at this
    rw [this];omega
   simp only [hi,if_false,cu]
   induction j using Nat.casesOn with
   |zero=>simp
   |succ j=>
    dsimp only
    by_cases hj:j%2=0
    ·have:¬ j=n:=by rintro rfl;exact hi hj
     simp [hj,this]
    ·simp only [hj,if_false]
     refine aa (mO o r _ _ H') ?_
     by_cases e:j=n
     ·subst e;simp
     ·have:¬ j/2=n/2:=fun q=>e (lQ ((Nat.mod_two_ne_zero.mp hj).trans (Nat.mod_two_ne_zero.mp hi).symm) q)
      simp [e,this]
noncomputable def Mem.ok(m:Mem):Prop:=∀i,(m.get i).isSome=true<->i<m.n
theorem Mem.lt{m:Mem}(k:m.ok)(h:m.get i=some o):i<m.n:=(k i).mp (by refine aa h ?_;rfl)
theorem Mem.get_set(m:Mem)(i j:Nat)(o:AO):(m.set i o).get j=if j=i then (m.get i).map (fun _=>o) else m.get j:=mN o m.t i j
theorem Mem.pO{m:Mem}(k:m.ok)(o:AO)(j:Nat):(m.push o).get j=if j=m.n then some o else m.get j:=mO o m.t m.n j k
theorem Mem.kz{m:Mem}(k:m.ok)(i:Nat)(o:AO):(m.set i o).ok:=fun j=>by
 refine aa (Mem.get_set ..) ?_
 show _<->j<m.n
 by_cases h:j=i
 ·subst h;refine aa (if_pos rfl) (aa Option.isSome_map ?_);exact k j
 ·refine aa (if_neg h) ?_;exact k j
theorem Mem.sv{m:Mem}(k:m.ok)(o:AO):(m.push o).ok:=fun j=>by
 refine aa (Mem.pO k ..) ?_
 show _<->j<m.n+1
 by_cases h:j=m.n
 ·subst h;simp
 ·rw [if_neg h,k j];omega
theorem Mem.DF(m:Mem)(o:AO):(m.push o).n=m.n+1:=rfl
theorem Mem.vN:(⟨.nil,0⟩:Mem).ok:=fun i=>by show (iY .nil i).isSome=true<->i<0;simp [lV]
theorem Mem.Aw(m:Mem):m.j8 []=m:=rfl
theorem Mem.oS(m:Mem)(o:AO)(l:List AO):m.j8 (o::l)=(m.push o).j8 l:=rfl
theorem Mem.uD:∀(l:List AO) {m:Mem},m.ok->(m.j8 l).ok
 | [],_,k=>k
 |o::l,_,k=>Mem.uD l (Mem.sv k o)
theorem Mem.of_ok(l:List AO):(Mem.of l).ok:=Mem.uD l Mem.vN
end
section
open PySem PySem.W PySem.Calls PyProof.Rows PyProof.V PySem.Spec
structure Wd where
 bg:List Addr
 ls:List (List (Addr×Obj))
 fx:List (Addr×Obj)
 gam:List Value
 eta:List (List (Str×Value))
structure Wd.le(W W':Wd):Prop where
 bg:W.bg <+:W'.bg
 fx:∀p∈W.fx,p∈W'.fx
 gam:W.gam <+:W'.gam
 eta:W'.eta=W.eta
theorem Wd.le.refl(W:Wd):W.le W:=⟨List.prefix_refl _,fun _ h=>h,List.prefix_refl _,rfl⟩
theorem Wd.le.trans{W W' jR:Wd}(a:W.le W')(b:W'.le jR):W.le jR:=⟨a.bg.trans b.bg,fun p h=>b.fx p (a.fx p h),a.gam.trans b.gam,b.eta.trans a.eta⟩
theorem ai{l l':List α}(h:l <+:l'){i:Nat}(e:l[i]?=some a):l'[i]?=some a:=by
 refine aU h fun r b7=>?_;clear h;subst b7
 have hi:i<l.length:=(jN e).1
 refine aa (List.getElem?_append_left hi) ?_;exact e
noncomputable def Cd:Ty->String
 | .list=> "list" | .dict=> "dict" | .str=> "str" | .tuple=> "tuple" | .bool=> "bool" | .range=> "range" | .enumerate=> "enumerate"
noncomputable def biN:Bi->String
 | .isinstance=> "isinstance" | .len=> "len"
noncomputable def VR(W:Wd)(a:AV)(v:Value):Prop:=match a with
 | .none=>v= .none
 | .bool b=>v= .bool b
 | .int i=>∃t,v= .int i t
 | .str s=>∃t,v= .str s t
 | .ty t=>v= .type (Cd t)
 | .bi b=>v= .builtin (biN b)
 | .k a=>v= .ref a
 | .o i=>∃a,W.bg[i]?=some a/\v= .ref a
 | .d i=>W.gam[i]?=some v
theorem VR.mono(l:W.le W'){a:AV}{v:Value}(h:VR W a v):VR W' a v:=by
 induction a<;>first | exact h | exact (let ⟨b,e,q⟩:=h;⟨b,ai l.bg e,q⟩) | exact ai l.gam h
@[elab_as_elim] theorem VR.eB{C:Value->Prop}(h:VR W (.str s) v)(k:∀t,C (.str s t)):C v:=by refine aU h fun t cw=>?_;clear h;subst cw;exact k t
@[elab_as_elim] theorem VR.mM{C:Value->Prop}(h:VR W (.int i) v)(k:∀t,C (.int i t)):C v:=by refine aU h fun t dC=>?_;clear h;subst dC;exact k t
@[elab_as_elim] theorem VR.oM{C:Value->Prop}(h:VR W (.o i) v)(k:∀a,W.bg[i]?=some a->C (.ref a)):C v:=by refine ay h fun a e dk=>?_;clear h;subst dk;exact k a e
noncomputable def bE(W:Wd):List AV->List Value->Prop
 | [],[]=>True
 |a::as,v::vs=>VR W a v/\bE W as vs
 |_,_=>False
theorem bE.mono(l:W.le W'):∀{as:List AV} {vs:List Value},bE W as vs->bE W' as vs
 | [],[],_=>trivial
 |_::_,_::_,h=>⟨h.1.mono l,bE.mono l h.2⟩
 | [],_::_,h=>h.elim
 |_::_,[],h=>h.elim
theorem bE.length:∀{as:List AV} {vs:List Value},bE W as vs->as.length=vs.length
 | [],[],_=>rfl
 |_::_,_::_,h=>congrArg (· + 1) (bE.length h.2)
 | [],_::_,h=>h.elim
 |_::_,[],h=>h.elim
theorem bE.get:∀{as:List AV} {vs:List Value},bE W as vs->∀{i:Nat} {a:AV},as[i]?=some a->∃v,vs[i]?=some v/\VR W a v
 | [],[],_,i,a,e=>by simp at e
 |b::_,v::_,h,0,a,e=>by
  simp only [List.getElem?_cons_zero,Option.some.injEq] at e ⊢
  subst e;exact ⟨v,rfl,h.1⟩
 |_::_,_::_,h,i+1,a,e=>by
  simp only [List.getElem?_cons_succ] at e ⊢
  exact bE.get h.2 e
 | [],_::_,h,_,_,_=>h.elim
 |_::_,[],h,_,_,_=>h.elim
theorem bE.qu(h:bE W as vs){i:Nat}{C:Prop}(e:as[i]?=some a)(k:∀v,vs[i]?=some v->VR W a v->C):C:=(bE.get h e).elim fun v g=>k v g.1 g.2
@[elab_as_elim] theorem bE.zf{C:List Value->Prop}(h:bE W (a::as) us)(k:∀u r,VR W a u->bE W as r->C (u::r)):C us:=by
 induction us using iM with
 |nil=>exact h.elim
 |cons u r=>exact k u r h.1 h.2
@[elab_as_elim] theorem bE.abd{C:List Value->Prop}(h:bE W [] us)(k:C []):C us:=by
 induction us using iM with
 |nil=>exact k
 |cons u r=>exact h.elim
@[elab_as_elim] theorem bE.Hw{C:List Value->Prop}(h:bE W [a] us)(k:∀u,VR W a u->C [u]):C us:=h.zf fun u _ p h=>h.abd (k u p)
@[elab_as_elim] theorem bE.Ci{C:List Value->Prop}(h:bE W [a,b] us)(k:∀u v,VR W a u->VR W b v->C [u,v]):C us:=h.zf fun u _ p h=>h.Hw fun v q=>k u v p q
theorem bE.Yl(h:bE W [a] us):∃u,us=[u]/\VR W a u:=h.Hw fun u p=>⟨u,rfl,p⟩
theorem bE.Xr(h:bE W [a,b] us):∃u v,us=[u,v]/\VR W a u/\VR W b v:=h.Ci fun u v p q=>⟨u,v,rfl,p,q⟩
@[elab_as_elim] theorem bE.Cp{C:List Value->Prop}(h:bE W [a,b,c] us)(k:∀u v w,VR W a u->VR W b v->VR W c w->C [u,v,w]):C us:=h.zf fun u _ p h=>h.Ci fun v w q r=>k u v w p q r
@[elab_as_elim] theorem bE.Vl{C:List Value->Prop}(h:bE W [a,b,c,d] us)(k:∀u v w z,VR W a u->VR W b v->VR W c w->VR W d z->C [u,v,w,z]):C us:=h.zf fun u _ p h=>h.Cp fun v w z q r s=>k u v w z p q r s
theorem bE.snoc:∀{as:List AV} {vs:List Value},bE W as vs->∀{a:AV} {v:Value},VR W a v->bE W (as ++ [a]) (vs ++ [v])
 | [],[],_,_,_,q=>⟨q,trivial⟩
 |_::_,_::_,h,_,_,q=>⟨h.1,bE.snoc h.2 q⟩
 | [],_::_,h,_,_,_=>h.elim
 |_::_,[],h,_,_,_=>h.elim
theorem bE.append:∀{as:List AV} {vs:List Value},bE W as vs->∀{bs:List AV} {us:List Value},bE W bs us->bE W (as++bs) (vs++us)
 | [],[],_,_,_,q=>q
 |_::_,_::_,h,_,_,q=>⟨h.1,bE.append h.2 q⟩
 | [],_::_,h,_,_,_=>h.elim
 |_::_,[],h,_,_,_=>h.elim
noncomputable def fJ{α β:Type}(R:α->β->Prop):Option α->Option β->Prop
 |none,none=>True
 |some a,some b=>R a b
 |_,_=>False
theorem fJ.none{R:α->β->Prop}(h:fJ R none b):b=none:=by induction b with | none=>rfl | some _=>exact h.elim
theorem fJ.some{R:α->β->Prop}(h:fJ R (some a) b):∃v,b=some v/\R a v:=by induction b with | none=>exact h.elim | some v=>exact ⟨v,rfl,h⟩
theorem fJ.someE{R:α->β->Prop}{C:Prop}(h:fJ R (Option.some a) b)(k:∀v,b=Option.some v->R a v->C):C:=h.some.elim fun v g=>k v g.1 g.2
inductive PT where
 |v (v:Value) | l (vs:List Value) | d (kvs:List (Str×Value))
section
variable (prog:Program)(w:PySem.World)(fx:List (Addr×Obj))(lf:Int->Value->Prop)
inductive IsL:PV->PT->Prop
 |none:IsL .none (.v .none)
 |int {i:Int} {v:Value}:lf i v->IsL (.int i) (.v v)
 |str {s:Str} {t:Tok}:IsL (.str s) (.v (.str s t))
 |tup {a:Addr} {ob:Obj} {vs:List Value} {n:Nat} {l:PV}:(a,ob)∈fx->ob.cls= .type "tuple" ->ob.data= .seq (List.toArray vs) n->vs.length<=900->IsL l (.l vs)->IsL (.tup l) (.v (.ref a))
 |list {a:Addr} {ob:Obj} {vs:List Value} {n:Nat} {l:PV}:(a,ob)∈fx->ob.cls= .type "list" ->ob.data= .seq (List.toArray vs) n->vs.length<=900->IsL l (.l vs)->IsL (.list l) (.v (.ref a))
 |dict {a:Addr} {ob:Obj} {kvs:List (Str×Value)} {l:PV}:(a,ob)∈fx->ob.IsDictOf (strKind prog w) kvs->(a==sysModules)=false->kvs.length<=900->IsL l (.d kvs)->IsL (.dict l) (.v (.ref a))
 |nil:IsL .nil (.l [])
 |cons {a r:PV} {v:Value} {vs:List Value}:IsL a (.v v)->IsL r (.l vs)->IsL (.cons a r) (.l (v::vs))
 |xP:IsL .nil (.d [])
 |ent {k:Str} {a r:PV} {v:Value} {kvs:List (Str×Value)}:IsL a (.v v)->IsL r (.d kvs)->IsL (.ent k a r) (.d ((k,v)::kvs))
end
theorem IsL.mono(h:∀p∈fx,p∈BW)(hl:∀i v,lf i v->lf' i v)(i:IsL prog w fx lf x t):IsL prog w BW lf' x t:=by
 induction i with
 |none=>exact .none
 |int q=>exact .int (hl _ _ q)
 |str=>exact .str
 |tup a b c d _ ih=>exact .tup (h _ a) b c d ih
 |list a b c d _ ih=>exact .list (h _ a) b c d ih
 |dict a b c d _ ih=>exact .dict (h _ a) b c d ih
 |nil=>exact .nil
 |cons _ _ i1 i2=>exact .cons i1 i2
 |xP=>exact .xP
 |ent _ _ i1 i2=>exact .ent i1 i2
section
variable (prog:Program)(w:PySem.World)(fx:List (Addr×Obj))(lf:Int->Value->Prop)
noncomputable def My(x:PV)(t:PT):Prop:=PT.rec
 (fun v=>PV.rec (v= .none) (fun i=>lf i v) (fun s=>∃t,v= .str s t)
  (fun l _=>∃a ob vs n,v= .ref a/\(a,ob)∈fx/\ob.cls= .type "tuple" /\ob.data= .seq (List.toArray vs) n/\vs.length<=900/\IsL prog w fx lf l (.l vs))
  (fun l _=>∃a ob vs n,v= .ref a/\(a,ob)∈fx/\ob.cls= .type "list" /\ob.data= .seq (List.toArray vs) n/\vs.length<=900/\IsL prog w fx lf l (.l vs))
  (fun l _=>∃a ob kvs,v= .ref a/\(a,ob)∈fx/\ob.IsDictOf (strKind prog w) kvs/\(a==sysModules)=false/\kvs.length<=900/\IsL prog w fx lf l (.d kvs))
  False (fun _ _ _ _=>False) (fun _ _ _ _ _=>False) x)
 (fun vs=>PV.rec False (fun _=>False) (fun _=>False) (fun _ _=>False) (fun _ _=>False) (fun _ _=>False) (vs=[]) (fun a r _ _=>∃v q,vs=v::q/\IsL prog w fx lf a (.v v)/\IsL prog w fx lf r (.l q)) (fun _ _ _ _ _=>False) x)
 (fun ks=>PV.rec False (fun _=>False) (fun _=>False) (fun _ _=>False) (fun _ _=>False) (fun _ _=>False) (ks=[]) (fun _ _ _ _=>False) (fun k a r _ _=>∃v q,ks=(k,v)::q/\IsL prog w fx lf a (.v v)/\IsL prog w fx lf r (.d q)) x) t
end
theorem IsL.inv(i:IsL prog w fx lf x t):My prog w fx lf x t:=by
 induction i with
 |none=>rfl
 |int h=>exact h
 |str=>exact ⟨_,rfl⟩
 |tup a b c d e=>exact ⟨_,_,_,_,rfl,a,b,c,d,e⟩
 |list a b c d e=>exact ⟨_,_,_,_,rfl,a,b,c,d,e⟩
 |dict a b c d e=>exact ⟨_,_,_,rfl,a,b,c,d,e⟩
 |nil=>rfl
 |cons a b=>exact ⟨_,_,rfl,a,b⟩
 |xP=>rfl
 |ent a b=>exact ⟨_,_,rfl,a,b⟩
noncomputable def EH(kn:Nat)(gam:List Value)(d:Int)(v:Value):Prop:=∃n:Nat,d=n/\n<kn/\gam[n]?=some v
inductive FR(W:Wd):aL->List DictEntry->Prop
 |nil:FR W [] []
 |cons {x:Str} {t:Tok} {a:AV} {e:DictEntry} {fs:aL} {es:List DictEntry}:e.key= .str x t->VR W a e.val->FR W fs es->FR W ((code x,a)::fs) (e::es)
theorem FR.mono(l:W.le W')(h:FR W fs es):FR W' fs es:=by
 induction h with
 |nil=>exact .nil
 |cons k v _ ih=>exact .cons k (v.mono l) ih
theorem FR.length(h:FR W fs es):fs.length=es.length:=by
 induction h with
 |nil=>rfl
 |cons _ _ _ ih=>exact congrArg (· + 1) ih
theorem vh{e:DictEntry}(hk:e.key= .str x t)(k:Str):e.key.isStr k=decide (x=k):=by refine aa (PyProof.Rows.KTD.key_is hk ..) ?_;exact decide_eq_decide.mpr eq_comm
theorem FR.look{W:Wd}(h:FR W fs es)(x:Str):∃r,getL x es=some r/\fJ (VR W) (ah (code x) fs) r:=by
 induction h with
 |nil=>exact ⟨none,rfl,trivial⟩
 |cons hk hv _ ih=>
  rename_i y t a e fs es hh
  refine ay ih fun r e1 e2=>?_;clear ih
  unfold getL at e1 ⊢
  refine aa (aI ..) (aa (List.find?_cons ..) (aa (vh hk ..) ?_))
  by_cases q:y=x
  ·subst q
   simp only [decide_true,if_true]
   exact ⟨_,rfl,hv⟩
  ·have q':¬ code y=code x:=fun z=>q (code_inj z)
   refine aa (if_neg q' ..) (aa (decide_eq_false q ..) ?_)
   have nr:e.refKey=false:=by unfold DictEntry.refKey;exact aa hk rfl
   refine ⟨r,?_,e2⟩
   refine aa (Eq.symm e1) ?_
   simp only [List.any_cons,nr,Bool.false_or]
theorem FR.put{W:Wd}(h:FR W fs es)(x:Str)(Ga:Int)(t:Tok)(hv:VR W a v):FR W (b8 (code x) a fs) (putL x Ga (.str x t) v es):=by
 induction h with
 |nil=>exact .cons rfl hv .nil
 |cons hk hw hr ih=>
  rename_i y u b e fs es
  unfold putL
  refine aa (eZ ..) (aa (vh hk ..) ?_)
  by_cases q:y=x
  ·subst q
   simp only [decide_true,if_true]
   exact .cons hk hv hr
  ·have q':¬ code y=code x:=fun z=>q (code_inj z)
   refine aa (if_neg q' ..) (aa (decide_eq_false q ..) ?_)
   exact .cons hk hw ih
inductive DR(W:Wd):bk->List (Str×Value)->Prop
 |nil:DR W [] []
 |cons {x:Str} {a:AV} {v:Value} {es:bk} {kvs:List (Str×Value)}:VR W a v->DR W es kvs->DR W ((code x,x,a)::es) ((x,v)::kvs)
theorem DR.mono(l:W.le W')(h:DR W es kvs):DR W' es kvs:=by
 induction h with
 |nil=>exact .nil
 |cons v _ ih=>exact .cons (v.mono l) ih
theorem DR.length(h:DR W es kvs):es.length=kvs.length:=by
 induction h with
 |nil=>rfl
 |cons _ _ ih=>exact congrArg (· + 1) ih
theorem DR.look(h:DR W es kvs)(x:Str):fJ (VR W) (bP (code x) es) (valueAt kvs x):=by
 induction h with
 |nil=>trivial
 |cons hv _ ih=>
  rename_i y a v es kvs _
  refine aa (df ..) ?_
  unfold valueAt at ih ⊢
  refine aa List.find?_cons ?_
  by_cases q:y=x
  ·subst q;simp only [if_true,decide_true];exact hv
  ·have q':¬ code y=code x:=fun z=>q (code_inj z)
   refine aa (if_neg q') (aa (decide_eq_false q) ?_)
   exact ih
theorem m2{kvs:List (Str×Value)}(hn:((y,u)::kvs).map (·.1) |>.Nodup):stored ((y,u)::kvs) k v=if y=k then (y,v)::kvs else (y,u)::stored kvs k v:=by
 rw [List.map_cons,List.nodup_cons] at hn
 by_cases q:y=k
 ·subst q
  refine aa (if_pos rfl) ?_
  unfold stored
  refine aa List.any_cons ?_
  simp only [decide_true,Bool.true_or,if_true,List.map_cons]
  congr 1
  refine List.map_congr_left (fun p hp=>?_) |>.trans (List.map_id _)
  have:p.1≠y:=fun e=>hn.1 (e▸List.mem_map_of_mem (f:=(·.1)) hp)
  refine aa (if_neg this) ?_;rfl
 ·refine aa (if_neg q) ?_
  unfold stored
  refine aa (List.any_cons ..) (aa (decide_eq_false q ..) (aa (Bool.false_or ..) ?_))
  by_cases z:(kvs.any fun kv=>decide (kv.1=k))=true
  ·exact aa (if_pos z ..) (aa (if_pos z ..) (aa (List.map_cons ..) (aa (if_neg q ..) rfl)))
  ·refine aa (if_neg z ..) (aa (if_neg z ..) ?_);rfl
theorem DR.put{kvs:List (Str×Value)}(h:DR W es kvs)(hn:(kvs.map (·.1)).Nodup)(x:Str)(hv:VR W a v):DR W (jV x a es) (stored kvs x v):=by
 induction h with
 |nil=>exact .cons hv .nil
 |cons hw hr ih=>
  rename_i y b u es kvs
  refine aa (m2 hn ..) (aa (mE ..) ?_)
  by_cases q:y=x
  ·subst q;refine aa (if_pos rfl ..) (aa (if_pos rfl ..) ?_);exact .cons hv hr
  ·have q':¬ code y=code x:=fun z=>q (code_inj z)
   refine aa (if_neg q ..) (aa (if_neg q' ..) ?_)
   exact .cons hw (ih (List.nodup_cons.mp hn).2)
def il(prog:Program)(w:PySem.World)(W:Wd)(de:bk×Option Nat)(ov:Option Value)(l:List (Addr×Obj)):Prop:=match ov with
 |none=>l=[]/\de.1=[]/\∀b,de.2=some b->∀j,j<4->W.gam[b+j]?=some .none
 |some v=>∃e ob kvs,v= .ref e/\l=[(e,ob)]/\ob.IsDictOf (strKind prog w) kvs/\(e==sysModules)=false/\((∀p∈kvs,(gI (code p.1)).isSome=true)/\(de.1=[]->∃b u,de.2=some b/\W.gam[b+2]?=some u/\u≠ .none))/\
   ∀k j,gI (code k)=some j->match bP (code k) de.1 with
    |some a=>∃u,valueAt kvs k=some u/\VR W a u
    |none=>match de.2 with
     |some b=>W.gam[b+j]?=some ((valueAt kvs k).getD .none)
     |none=>valueAt kvs k=none
theorem il.mono{w:PySem.World}{W W':Wd}(le:W.le W')(h:il prog w W de ov l):il prog w W' de ov l:=by
 induction ov with
 |none=>exact ⟨h.1,h.2.1,fun b e j hj=>ai le.gam (h.2.2 b e j hj)⟩
 |some v=>
  refine eL h fun e ob kvs h1 h2 h3 h4 eD h7=>?_;clear h;obtain ⟨h5,h6⟩:=eD
  refine ⟨e,ob,kvs,h1,h2,h3,h4,⟨h5,fun q=>let ⟨b,u,x,y,z⟩:=h6 q;⟨b,u,x,ai le.gam y,z⟩⟩,fun k j hk=>?_⟩
  have:=h7 k j hk
  split at this
  ·exact let ⟨u,x,y⟩:=this;⟨u,x,y.mono le⟩
  ·split at this
   ·exact ai le.gam this
   ·exact this
inductive mY(prog:Program)(w:PySem.World)(W:Wd)(kvs:List (Str×Value)):List (Nat×bk×Option Nat)->List (Addr×Obj)->Prop
 |nil:mY prog w W kvs [] []
 |cons {s:Str} {de:bk×Option Nat} {l r:List (Addr×Obj)} {tb:List (Nat×bk×Option Nat)}:il prog w W de (valueAt kvs s) l->mY prog w W kvs tb r->mY prog w W kvs ((code s,de)::tb) (l++r)
theorem mY.mono(le:W.le W')(h:mY prog w W kvs tb l):mY prog w W' kvs tb l:=by
 induction h with
 |nil=>exact .nil
 |cons e _ ih=>exact .cons (e.mono le) ih
noncomputable def jE(kn:List (Nat×Option AV))(p:Str×Value):Bool:=(ah (code p.1) kn).isNone
noncomputable def jD(prog:Program)(w:PySem.World)(P:bA)(W:Wd)(a:Addr)(o:AO)(l:List (Addr×Obj)):Prop:=match o with
 | .inst C fs=>∃dx es n ci,l=[(a,instObj C dx),(dx,dictOf es n)]/\FR W fs es/\ah C P.cls=some ci/\(∀x v,ah x fs=some v->dH x ci.BZ=some .own)
 | .list xs=>∃vs n,l=[(a,listOf (List.toArray vs) n)]/\bE W xs vs
 | .tup xs=>∃vs ob n,l=[(a,ob)]/\ob.cls= .type "tuple" /\ob.data= .seq (List.toArray vs) n/\bE W xs vs
 | .dict es=>∃ob kvs,l=[(a,ob)]/\ob.IsDictOf (strKind prog w) kvs/\(a==sysModules)=false/\DR W es kvs
 | .pmap kn j=>∃ob kvs,l=[(a,ob)]/\ob.IsDictOf (strKind prog w) kvs/\(a==sysModules)=false/\(∃r,W.eta[j]?=some r/\kvs.filter (jE kn)=r/\r.length<=900)/\
   ∀x ov,ah (code x) kn=some ov->fJ (VR W) ov (valueAt kvs x)
 | .db tb=>∃ob kvs r,l=(a,ob)::r/\ob.IsDictOf (strKind prog w) kvs/\(a==sysModules)=false/\tb.length<=100/\(∀s,valueAt kvs s≠none->(ah (code s) tb).isSome=true)/\(tb.map (·.1)).Nodup/\mY prog w W kvs tb r
 | .cell v=>∃ob u,l=[(a,ob)]/\ob.data= .cell (some u)/\VR W v u
 | .cy=>∃ob B9,l=[(a,ob)]/\ob.data= .cell B9
 | .keys i=>∃d,W.bg[i]?=some d/\l=[(a,{cls:= .type "dict_keys",data:= .fields #[.ref d]})]
 | .range n=>n<=100/\∃ob t u z,l=[(a,ob)]/\(∀h:Heap,h.get? a=some ob->IsRange h a 0 n 1 t u z)
 | .gone=>True
theorem fJ.mono(l:W.le W')(h:fJ (VR W) a v):fJ (VR W') a v:=by
 induction a<;>induction v<;>first | exact h | exact VR.mono l h
theorem jD.mono{w:PySem.World}{P:bA}(le:W.le W')(h:jD prog w P W a o l):jD prog w P W' a o l:=by
 induction o with
 |inst C fs=>refine NG h fun dx es n ci e f r=>?_;clear h;exact ⟨dx,es,n,ci,e,f.mono le,r⟩
 |list xs=>refine iJ h fun vs n e r=>?_;clear h;exact ⟨vs,n,e,r.mono le⟩
 |tup xs=>refine mj h fun vs ob n e c d r=>?_;clear h;exact ⟨vs,ob,n,e,c,d,r.mono le⟩
 |dict es=>refine mX h fun ob kvs e c lo r=>?_;clear h;exact ⟨ob,kvs,e,c,lo,r.mono le⟩
 |pmap kn j=>refine jB h fun ob kvs e c lo fG h3=>?_;clear h;obtain ⟨r,h1,h2⟩:=fG;exact ⟨ob,kvs,e,c,lo,⟨r,by refine aa le.eta ?_;exact h1,h2⟩,fun x ov q=>fJ.mono le (h3 x ov q)⟩
 |db tb=>refine BJ h fun ob kvs r h1 h2 h3 h4 h5 h6 h7=>?_;clear h;exact ⟨ob,kvs,r,h1,h2,h3,h4,h5,h6,h7.mono le⟩
 |cell v=>refine dM h fun ob u e c r=>?_;clear h;exact ⟨ob,u,e,c,r.mono le⟩
 |cy=>exact h
 |keys i=>refine ay h fun d e r=>?_;clear h;exact ⟨d,ai le.bg e,r⟩
 |range n=>exact h
 |gone=>trivial
noncomputable def cv(W:Wd)(m:Str->Option Value)(loc:aL):Prop:=∀x v,ah (code x) loc=some v->∃u,m x=some u/\VR W v u
theorem cv.mono(le:W.le W')(h:cv W m loc):cv W' m loc:=fun x v e=>let ⟨u,q,r⟩:=h x v e;⟨u,q,r.mono le⟩
theorem cv.put(h:cv W m loc)(x:Str)(hv:VR W a v):cv W (fun y=>if y=x then some v else m y) (b8 (code x) a loc):=by
 intro y b e
 replace e:=(cU ..)▸e
 by_cases q:y=x
 ·subst q;replace e:=(if_pos rfl)▸e;have gF:=aH e;clear e;subst gF;exact ⟨v,by simp,hv⟩
 ·have q':¬ code x=code y:=fun z=>q (code_inj z).symm
  replace e:=(if_neg q')▸e
  refine ay (h y b e) fun u e1 e2=>?_
  exact ⟨u,by simp only [if_neg q];exact e1,e2⟩
structure Gx where
 prog:Program
 w:PySem.World
 K:Frag
 P:bA
 gl:aL
 p:Program
 loose:List Str
 mean:ExcName->Option Value
 mg:Str->Option Value
 mb:Str->Option Value
 I:Nat->Option Int
noncomputable def Wd.news(W:Wd)(fz:List (Addr×Obj)):List (Addr×Obj):=W.ls.flatten++(W.fx++fz)
noncomputable def Wj(prog:Program)(w:PySem.World)(fx:List (Addr×Obj))(t:Tg)(v:Value):Prop:=match t with
 | .any=>True
 | .none=>v= .none
 | .str b=>∃s u,v= .str s u/\b=full s.cps.toList/\s.cps.toList.length<=900
 | .dict b=>∃a ob kvs,v= .ref a/\(a,ob)∈fx/\ob.IsDictOf (strKind prog w) kvs/\(a==sysModules)=false/\(!kvs.isEmpty)=b/\kvs.length<=900
 | .tuple=>∃a ob vs n,v= .ref a/\(a,ob)∈fx/\ob.cls= .type "tuple" /\ob.data= .seq (List.toArray vs) n/\vs≠[]/\vs.length<=900
 | .int=>∃i t,v= .int i t
 | .nn=>v≠ .none
 | .nG=>v= .none\/∃a ob n,v= .ref a/\(a,ob)∈fx/\ob.cls= .type "tuple" /\ob.data= .seq #[] n
noncomputable def eK(A:Around)(s:Shared)(u v:Value)(b:Bool):Prop:=SeqAt.EqAt A s u v b/\SeqAt.RcAt A s u v b/\SeqAt.RcNeAt A s u v (!b)
noncomputable def Wt(fx:List (Addr×Obj))(u v:Value)(b:Bool):Prop:=∀(A:Around) (s:Shared),A.units+200<cLine->(∀p∈fx,s.heap.get? p.1=some p.2)->
 eK A s u v b
structure DatAll(G:Gx)(W:Wd):Prop where
 tag:∀(i:Nat) v,W.gam[i]?=some v->Wj G.prog G.w W.fx (bN G.P i) v
 eq:∀(i j:Nat) u v b,W.gam[i]?=some u->W.gam[j]?=some v->uN i j G.P.eqs=some b->Wt W.fx u v b
 int:∀(i:Nat) v x,W.gam[i]?=some v->G.I i=some x->∃t,v= .int x t
 hd:∀(i:Nat) v,W.gam[i]?=some v->handedIn v=true
 jO:∀(i:Nat) x u b t,W.gam[i]?=some u->wo i (code x) G.P.jO=some b->Wt W.fx u (.str x t) b
 dg:∀(i:Nat) x r,wo i (code x) G.P.dg=some r->∀v,W.gam[i]?=some v->∃a ob kvs,v= .ref a/\(a,ob)∈W.fx/\ob.IsDictOf (strKind G.prog G.w) kvs/\(a==sysModules)=false/\fJ (fun j u=>W.gam[j]?=some u) r (valueAt kvs x)
 ds:∀(i n j:Nat),wo i n G.P.ds=some j->∀v,W.gam[i]?=some v->∃a ob vs k u,v= .ref a/\(a,ob)∈W.fx/\ob.cls= .type "tuple" /\ob.data= .seq (List.toArray vs) k/\vs.length<=900/\vs[n]?=some u/\W.gam[j]?=some u
 pT:∀(c:Bool) (i:Nat) x b,i<G.P.kn->DL c i x G.P.pT=some b->∀u v BW,W.gam[i]?=some u->(∀p∈W.fx,p∈BW)->IsL G.prog G.w BW (EH G.P.kn W.gam) x (.v v)->Wt BW (bif c then v else u) (bif c then u else v) b
structure Rep(G:Gx)(h₀:Heap)(L:Addr)(fz:List (Addr×Obj))(h:Heap)(m:Str->Option Value)(W:Wd)(σ:St):Prop where
 fr:Fr h₀ L h m
 nw:News h₀ L h (W.news fz)
 nd:((W.news fz).map (·.1)).Nodup
 mem:σ.mem.ok
 n1:W.bg.length=σ.mem.n
 n2:W.ls.length=σ.mem.n
 n3:W.gam.length=σ.nd
 ob:∀i o,σ.mem.get i=some o->∃a l,W.bg[i]?=some a/\W.ls[i]?=some l/\jD G.prog G.w G.P W a o l
 loc:cv W m σ.loc
 dat:DatAll G W
section
variable {W:Wd}
theorem cD{i:Nat}(e:W.ls[i]?=some l)(hp:p∈l):p∈W.news fz:=
 sJ _ (List.mem_flatten.mpr ⟨l,kW e,hp⟩)
theorem fT(hp:p∈W.fx):p∈W.news fz:=List.mem_append_right _ (sJ _ hp)
theorem iv(hp:p∈fz):p∈W.news fz:=List.mem_append_right _ (List.mem_append_right _ hp)
theorem Rep.heap(R:Rep G h₀ L fz h m W σ)(F:Fr h₀ L h' m)(N:News h₀ L h' (W.news fz)):Rep G h₀ L fz h' m W σ:=
 ⟨F,N,R.nd,R.mem,R.n1,R.n2,R.n3,R.ob,R.loc,R.dat⟩
theorem Rep.qS(R:Rep G h₀ L fz h m W σ)(i:Nat)(o:AO){C:Prop}(e:σ.mem.get i=some o)(k:∀a l,W.bg[i]?=some a->W.ls[i]?=some l->jD G.prog G.w G.P W a o l->C):C:=let ⟨a,l,x,y,z⟩:=R.ob i o e;k a l x y z
theorem Rep.locs(R:Rep G h₀ L fz h m W σ)(F:Fr h₀ L h' m')(N:News h₀ L h' (W.news fz))(hl:cv W m' l):Rep G h₀ L fz h' m' W (bQ σ l):=
 ⟨F,N,R.nd,R.mem,R.n1,R.n2,R.n3,R.ob,hl,R.dat⟩
noncomputable def Wd.push(W:Wd)(a:Addr)(l:List (Addr×Obj)):Wd:=⟨W.bg ++ [a],W.ls ++ [l],W.fx,W.gam,W.eta⟩
theorem Wd.aS(W:Wd)(a:Addr)(l:List (Addr×Obj)):W.le (W.push a l):=⟨List.prefix_append _ _,fun _ h=>h,List.prefix_refl _,rfl⟩
theorem mF(W:Wd)(a:Addr)(l fz:List (Addr×Obj)):((W.push a l).news fz).Perm (l++W.news fz):=by
 show ((W.ls ++ [l]).flatten++(W.fx++fz)).Perm (l++(W.ls.flatten++(W.fx++fz)))
 refine aa (List.flatten_append ..) (aa (List.flatten_cons ..) (aa (List.flatten_nil ..) (aa (List.append_nil ..) ?_)))
 generalize W.fx++fz=z
 refine aa (Eq.symm (eP l ..)) ?_
 exact List.Perm.append_right _ List.perm_append_comm
theorem Rep.uE(R:Rep G h₀ L fz h m W σ){a:Addr}(F:Fr h₀ L h' m)(N:News h₀ L h' (l++W.news fz))(fresh:∀p∈W.news fz,∀q∈l,p.1≠q.1)(nl:(l.map (·.1)).Nodup)
  (ho:jD G.prog G.w G.P (W.push a l) a o l):Rep G h₀ L fz h' m (W.push a l) (aB σ (σ.mem.push o)):=by
 have pm:=mF W a l fz
 have AB:((l++W.news fz).map (·.1)).Nodup:=by
  rw [List.map_append,List.nodup_append]
  refine ⟨nl,R.nd,fun x hx y hy e=>?_⟩
  refine ay (nS hx) fun q hq cw=>?_;clear hx;subst cw
  refine ay (nS hy) fun p hp dC=>?_;clear hy;subst dC
  exact fresh p hp q hq e.symm
 refine ⟨F,fun p hp=>N p (pm.mem_iff.mp hp),(pm.map (·.1)).nodup_iff.mpr AB,Mem.sv R.mem o,?_,?_,R.n3,fun i o' e=>?_,R.loc.mono (W.aS a l),⟨R.dat.tag,R.dat.eq,R.dat.int,R.dat.hd,R.dat.jO,R.dat.dg,R.dat.ds,R.dat.pT⟩⟩
 ·show (W.bg ++ [a]).length=σ.mem.n+1
  refine aa List.length_append (aa R.n1 ?_);rfl
 ·show (W.ls ++ [l]).length=σ.mem.n+1
  refine aa List.length_append (aa R.n2 ?_);rfl
 ·have e':(σ.mem.push o).get i=some o':=e
  replace e':=(Mem.pO R.mem ..)▸e'
  by_cases q:i=σ.mem.n
  ·replace e':=(if_pos q)▸e'
   have gF:=aH e';clear e';clear e;subst gF
   refine ⟨a,l,?_,?_,ho⟩
   ·show (W.bg ++ [a])[i]?=_
    refine aa q (aa (Eq.symm R.n1) ?_);simp
   ·show (W.ls ++ [l])[i]?=_
    refine aa q (aa (Eq.symm R.n2) ?_);simp
  ·replace e':=(if_neg q)▸e'
   refine R.qS i o' e' fun b k e1 e2 e3=>?_;clear e'
   exact ⟨b,k,ai (List.prefix_append _ _) e1,ai (List.prefix_append _ _) e2,e3.mono (W.aS a l)⟩
theorem Rep.push(R:Rep G h₀ L fz h m W σ)(F:Fr h₀ L h' m)(N:News h₀ L h' (l++W.news fz))(fresh:∀p∈W.news fz,∀q∈l,p.1<q.1)(nl:(l.map (·.1)).Nodup)
  (ho:jD G.prog G.w G.P (W.push a l) a o l):Rep G h₀ L fz h' m (W.push a l) (aB σ (σ.mem.push o)):=
 R.uE F N (fun p hp q hq=>Nat.ne_of_lt (fresh p hp q hq)) nl ho
theorem nW(W:Wd)(l fz:List (Addr×Obj)):(W.news (l++fz)).Perm (l++W.news fz):=by
 show (W.ls.flatten++(W.fx++(l++fz))).Perm (l++(W.ls.flatten++(W.fx++fz)))
 refine aa (Eq.symm (eP ..)) (aa (Eq.symm (eP ..)) (aa (Eq.symm (eP ..)) (aa (Eq.symm (eP ..)) ?_)))
 refine aa (eP l ..) ?_
 exact List.Perm.append_right _ List.perm_append_comm
theorem Rep.pP(R:Rep G h₀ L fz h m W σ)(F:Fr h₀ L h' m)(N:News h₀ L h' (l++W.news fz))(fresh:∀p∈W.news fz,∀q∈l,p.1≠q.1)(nl:(l.map (·.1)).Nodup):Rep G h₀ L (l++fz) h' m W σ:=by
 have pm:=nW W l fz
 have AB:((l++W.news fz).map (·.1)).Nodup:=by
  rw [List.map_append,List.nodup_append]
  refine ⟨nl,R.nd,fun x hx y hy e=>?_⟩
  refine ay (nS hx) fun q hq dk=>?_;clear hx;subst dk
  refine ay (nS hy) fun p hp eD=>?_;clear hy;subst eD
  exact fresh p hp q hq e.symm
 refine ⟨F,fun p hp=>N p (pm.mem_iff.mp hp),(pm.map (·.1)).nodup_iff.mpr AB,R.mem,R.n1,R.n2,R.n3,R.ob,R.loc,R.dat⟩
theorem Rep.kg(R:Rep G h₀ L (l++fz) h m W σ):Rep G h₀ L fz h m W σ:=by
 have pm:=nW W l fz
 have nd:=(pm.map (·.1)).nodup_iff.mp R.nd
 rw [List.map_append,List.nodup_append] at nd
 exact ⟨R.fr,fun p hp=>R.nw p (pm.mem_iff.mpr (List.mem_append_right _ hp)),nd.2.1,R.mem,R.n1,R.n2,R.n3,R.ob,R.loc,R.dat⟩
theorem Rep.Be(R:Rep G h₀ L (l++fz) h m W σ):(∀p∈W.news fz,∀q∈l,p.1≠q.1)/\(l.map (·.1)).Nodup/\News h₀ L h (l++W.news fz):=by
 have pm:=nW W l fz
 have nd:=(pm.map (·.1)).nodup_iff.mp R.nd
 rw [List.map_append,List.nodup_append] at nd
 exact ⟨fun p hp q hq e=>nd.2.2 q.1 (List.mem_map_of_mem (f:=(·.1)) hq) p.1 (List.mem_map_of_mem (f:=(·.1)) hp) e.symm,nd.1,fun p hp=>R.nw p (pm.mem_iff.mpr hp)⟩
theorem Rep.eE(R:Rep G h₀ L fz h m W σ)(a:Addr)(l:List (Addr×Obj)):VR (W.push a l) (.o σ.mem.n) (.ref a):=⟨a,by show (W.bg ++ [a])[σ.mem.n]?=_;refine aa (Eq.symm R.n1) ?_;simp,rfl⟩
noncomputable def Wd.upd(W:Wd)(i:Nat)(l:List (Addr×Obj)):Wd:=⟨W.bg,W.ls.set i l,W.fx,W.gam,W.eta⟩
theorem Wd.aP(W:Wd)(i:Nat)(l:List (Addr×Obj)):W.le (W.upd i l):=⟨List.prefix_refl _,fun _ h=>h,List.prefix_refl _,rfl⟩
theorem jh(e:ls[i]?=some l):∃A B,ls=A++l::B/\∀l',ls.set i l'=A++l'::B:=by
 have hi:i<ls.length:=(jN e).1
 have he:ls[i]=l:=(jN e).2
 refine ⟨ls.take i,ls.drop (i+1),?_,fun l'=>?_⟩
 ·refine aa (Eq.symm he) (aa (Eq.symm (List.drop_eq_getElem_cons hi)) ?_);exact (List.take_append_drop i ls).symm
 ·exact aa List.set_eq_take_append_cons_drop (aa (if_pos hi) rfl)
theorem Rep.split(R:Rep G h₀ L fz h m W σ)(e:W.ls[i]?=some (u++(d,o)::v)):
  ∃pre post,W.news fz=pre++(d,o)::post/\(∀o',(W.upd i (u++(d,o')::v)).news fz=pre++(d,o')::post)/\(∀p∈pre,p.1≠d)/\∀p∈post,p.1≠d:=by
 refine iJ (jh e) fun A B e1 e2=>?_
 have key:∀o',(A++(u++(d,o')::v)::B).flatten++(W.fx++fz)=(A.flatten++u)++(d,o')::(v++B.flatten++(W.fx++fz)):=fun o'=>by
  simp [List.flatten_append,List.flatten_cons,eP]
 have k0:W.news fz=(A.flatten++u)++(d,o)::(v++B.flatten++(W.fx++fz)):=by
  unfold Wd.news;refine aa e1 ?_;exact key o
 refine ⟨A.flatten++u,v++B.flatten++(W.fx++fz),k0,fun o'=>?_,?_,?_⟩
 ·show ((W.ls.set i _).flatten++(W.fx++fz))=_
  refine aa (e2 ..) ?_;exact key o'
 ·have:=R.nd
  rw [k0,List.map_append,List.nodup_append] at this
  exact fun p hp q=>this.2.2 p.1 (List.mem_map_of_mem (f:=(·.1)) hp) d (by refine aa List.map_cons ?_;exact cg) q
 ·have:=R.nd
  rw [k0,List.map_append,List.nodup_append,List.map_cons,List.nodup_cons] at this
  exact fun p hp q=>this.2.1.1 (q▸List.mem_map_of_mem (f:=(·.1)) hp)
theorem Rep.iu(R:Rep G h₀ L fz h m W σ){C:Prop}(e:W.ls[i]?=some (u++(d,o)::v))
  (k:∀pre post,W.news fz=pre++(d,o)::post->(∀o',(W.upd i (u++(d,o')::v)).news fz=pre++(d,o')::post)->(∀p∈pre,p.1≠d)->(∀p∈post,p.1≠d)->C):C:=let ⟨x,y,a,b,c,d⟩:=R.split e;k x y a b c d
theorem kZ(h1:∀p∈pre,p.1≠d)(h2:∀p∈post,p.1≠d):Upd d o o' (pre++(d,o)::post) (pre++(d,o')::post):=by
 induction pre with
 |nil=>exact .head h2
 |cons p r ih=>exact .tail (h1 p cg) (ih fun q hq=>h1 q (fw _ hq))
theorem fu(h1:∀p∈pre,p.1≠d)(h2:∀p∈post,p.1≠d):UpdF d o (pre++(d,o)::post) (fun o'=>pre++(d,o')::post):=by
 induction pre with
 |nil=>exact .head h2
 |cons p r ih=>exact .tail (h1 p cg) (ih fun q hq=>h1 q (fw _ hq))
theorem Rep.rT(R:Rep G h₀ L fz h m W σ){i:Nat}(F:Fr h₀ L h' m)(N:News h₀ L h' ((W.upd i l').news fz))(hl:W.ls[i]?=some l)(ha:W.bg[i]?=some a)(same:l'.map (·.1)=l.map (·.1))
  (ho:jD G.prog G.w G.P (W.upd i l') a ao l'):Rep G h₀ L fz h' m (W.upd i l') (aB σ (σ.mem.set i ao)):=by
 refine iJ (jh hl) fun A B e1 e2=>?_
 have hi:i<W.ls.length:=(jN hl).1
 have km:((W.upd i l').news fz).map (·.1)=(W.news fz).map (·.1):=by
  show ((W.ls.set i l').flatten++(W.fx++fz)).map (·.1)=(W.ls.flatten++(W.fx++fz)).map (·.1)
  refine aa (e2 ..) (aa (e1 ..) ?_)
  simp only [List.flatten_append,List.flatten_cons,List.map_append,same]
 refine ⟨F,N,km▸R.nd,Mem.kz R.mem i ao,R.n1,?_,R.n3,fun j o' e=>?_,R.loc.mono (W.aP i l'),⟨R.dat.tag,R.dat.eq,R.dat.int,R.dat.hd,R.dat.jO,R.dat.dg,R.dat.ds,R.dat.pT⟩⟩
 ·show (W.ls.set i l').length=σ.mem.n
  refine aa List.length_set ?_;exact R.n2
 ·have e':(σ.mem.set i ao).get j=some o':=e
  replace e':=(Mem.get_set ..)▸e'
  by_cases q:j=i
  ·subst q
   replace e':=(if_pos rfl)▸e'
   refine ay (Option.map_eq_some_iff.mp e') fun LM h0 fG=>?_;clear e;subst fG
   exact ⟨a,l',ha,by show (W.ls.set j l')[j]?=_;exact aa (List.getElem?_set_self hi) rfl,ho⟩
  ·replace e':=(if_neg q)▸e'
   refine R.qS j o' e' fun b k e1 e2 e3=>?_;clear e'
   exact ⟨b,k,e1,by show (W.ls.set i l')[j]?=_;refine aa (List.getElem?_set_ne (Ne.symm q)) ?_;exact e2,e3.mono (W.aP i l')⟩
end
structure Nz(G:Gx)(A₀ A:Around)(base:Heap)(outer:List Env)(h₀:Heap)(L:Addr)(env:Env)(n:Nat):Prop where
 B:Below A₀ base outer h₀
 X:G.K.In h₀
 T:Top G.p G.loose G.mean G.mg G.mb h₀
 hA:A.frames=some (env::outer)
 hf:env.frame=some L
 Ex:env.scope.kind= .function
 hh:A.handled=none
 hd:A.depth+3*n<=900
 hu:A.units+20*n<=8000
noncomputable def CellsOk(W:Wd)(cx:Cx)(cl:List (Str×Addr)):Prop:=∀x i,ah (code x) cx.cells=some i->∃c,W.bg[i]?=some c/\cl.lookup x=some c
noncomputable def mi(W:Wd)(fz:List (Addr×Obj))(L:Addr)(b:gf)(cx:Cx)(aN env:Env):Prop:=match b with
 | .fn sc=>cx.comp=none/\env=aN/\∃cn scope a kX cl,aN=envX cn scope L a kX cl/\scope.names=sc/\scope.kind= .function/\CellsOk W cx cl/\(∀y,scope.names.lookup y=some .cell->(cl.lookup y).isSome=true)
 | .comp sc tL=>∃cn ba a kX gu scope cl C oC m₂ y av u,aN=envX cn ba L a kX gu/\ba.names=tL/\ba.kind= .function/\env=compEnvC scope cl C aN/\scope.names=sc/\scope.kind= .function/\(∀x,scope.names.lookup x=some .free->∀i,ah (code x) cx.cells=some i->∃c,W.bg[i]?=some c/\cl.lookup x=some c)/\
   (∀y,ba.names.lookup y=some .cell->(gu.lookup y).isSome=true)/\(C,oC)∈fz/\LCg.NsObj oC m₂/\m₂ y=some u/\VR W av u/\cx.comp=some (code y,av)
theorem mi.MS{C:Prop}(h:mi W fz L (.fn sc) cx aN env)(k:cx.comp=none->env=aN->∀cn scope a kX cl,aN=envX cn scope L a kX cl->scope.names=sc->scope.kind= .function->CellsOk W cx cl->(∀y,scope.names.lookup y=some .cell->(cl.lookup y).isSome=true)->C):C:=
 h.2.2.elim fun a h'=>h'.elim fun b h'=>h'.elim fun c h'=>h'.elim fun d h'=>h'.elim fun e h'=>k h.1 h.2.1 a b c d e h'.1 h'.2.1 h'.2.2.1 h'.2.2.2.1 h'.2.2.2.2
theorem mi.zg{X:Prop}(h:mi W fz L (.comp sc tL) cx aN env)
  (k:∀cn ba a kX gu scope cl C oC m₂ y av u,aN=envX cn ba L a kX gu->ba.names=tL->ba.kind= .function->env=compEnvC scope cl C aN->scope.names=sc->scope.kind= .function->(∀x,scope.names.lookup x=some .free->∀i,ah (code x) cx.cells=some i->∃c,W.bg[i]?=some c/\cl.lookup x=some c)->(∀y,ba.names.lookup y=some .cell->(gu.lookup y).isSome=true)->(C,oC)∈fz->LCg.NsObj oC m₂->m₂ y=some u->VR W av u->cx.comp=some (code y,av)->X):X:=by
 obtain ⟨a1,a2,a3,a4,a5,a6,a7,a8,a9,a10,a11,a12,a13,h1,h2,h3,h4,h5,h6,h7,h8,h9,Jj,Xa,W9,h13⟩:=h
 exact k a1 a2 a3 a4 a5 a6 a7 a8 a9 a10 a11 a12 a13 h1 h2 h3 h4 h5 h6 h7 h8 h9 Jj Xa W9 h13
theorem CellsOk.mono(le:W.le W')(h:CellsOk W cx cl):CellsOk W' cx cl:=fun x i e=>let ⟨c,a,b⟩:=h x i e;⟨c,ai le.bg a,b⟩
theorem mi.mono(le:W.le W')(hf:∀p∈fz,p∈fz')(h:mi W fz L b cx aN env):mi W' fz' L b cx aN env:=by
 induction b with
 |fn sc=>refine h.MS fun h1 h2 cn scope a kX cl h3 h4 h5 h6 h7=>?_;exact ⟨h1,h2,cn,scope,a,kX,cl,h3,h4,h5,h6.mono le,h7⟩
 |comp sc tL=>
  refine h.zg fun cn ba a kX gu scope cl C oC m₂ y av u h1 h2 h3 h4 h5 h6 h7 dI h8 h9 Jj Xa W9=>?_;clear h
  exact ⟨cn,ba,a,kX,gu,scope,cl,C,oC,m₂,y,av,u,h1,h2,h3,h4,h5,h6,fun x hx i e=>(let ⟨c,p,q⟩:=h7 x hx i e;⟨c,ai le.bg p,q⟩),dI,hf _ h8,h9,Jj,Xa.mono le,W9⟩
noncomputable def NC(P:bA)(i:Nat):Prop:=(∃op a k nd,ql op a k nd P.ops=some (.d i))\/∃op a k nd,kc op a k nd P.eu=some (.d i)
structure dn(G:Gx):Prop where
 op:∀op i k nd r,ql op i k nd G.P.ops=some r->∃x y,G.I i=some x/\eU op x k=some y/\k.natAbs<2 ^ 20/\(r= .int y\/∃j,r= .d j/\G.I j=some y)
 op2:∀op i j nd r,kc op i j nd G.P.eu=some r->∃x k y,G.I i=some x/\G.I j=some k/\eU op x k=some y/\k.natAbs<2 ^ 20/\(r= .int y\/∃j,r= .d j/\G.I j=some y)
 tag:∀i x,G.I i=some x->NC G.P i->bN G.P i= .any\/bN G.P i= .int
 eq:∀i x,G.I i=some x->NC G.P i->∀j,uN i j G.P.eqs=none/\uN j i G.P.eqs=none
 no:∀i x,G.I i=some x->NC G.P i->∀j,wo i j G.P.jO=none/\wo i j G.P.dg=none/\wo i j G.P.ds=none
 kn:∀i x,G.I i=some x->NC G.P i->G.P.kn<=i
structure At where
 A₀:Around
 A:Around
 base:Heap
 outer:List Env
 h₀:Heap
 L:Addr
 aN:Env
 env:Env
 fz:List (Addr×Obj)
 cx:Cx
structure At.Ok(G:Gx)(T:At)(n:Nat)(b:gf)(W:Wd):Prop where
 gL:Nz G T.A₀ T.A T.base T.outer T.h₀ T.L T.aN n
 env:mi W T.fz T.L b T.cx T.aN T.env
theorem At.Ok.mono{T:At}(h:T.Ok G n b W)(le:W.le W'):T.Ok G n b W':=⟨h.gL,h.env.mono le fun _ x=>x⟩
noncomputable abbrev At.Rep(T:At)(G:Gx)(h:Heap)(m:Str->Option Value)(W:Wd)(σ:St):Prop:=Mine.Rep G T.h₀ T.L T.fz h m W σ
noncomputable def gV{α:Type}(G:Gx)(T:At)(W:Wd)(m:Str->Option Value)(aF:St)(R:Wd->α->Prop)(Q:α->Shared->Prop)(s:Shared):Prop:=
 ∀W' h' tk v,W.le W'->T.Rep G h' m W' aF->R W' v->Q v {s with heap:=h',toks:=tk}
noncomputable def nx{α:Type}(G:Gx)(T:At)(W:Wd)(aF:St)(R:Wd->α->Prop)(Q:α->Shared->Prop)(s:Shared):Prop:=
 ∀W' m' h' tk v,W.le W'->T.Rep G h' m' W' aF->R W' v->Q v {s with heap:=h',toks:=tk}
noncomputable def SE(G:Gx)(n:Nat)(b:gf)(f:Ev)(e:Expr):Prop:=∀(T:At) (W:Wd) (m:Str->Option Value) (σ:St) (s:Shared) (a:AV) (aF:St) (Q:Value->Shared->Prop) (E:Value->Shared->Prop),
 T.Ok G n b W->T.Rep G s.heap m W σ->f T.cx σ=some (a,aF)->gV G T W m aF (fun W v=>VR W a v) Q s->wpAny (model G.prog G.w) T.A (eval e T.env) Q E s
noncomputable def zQ(G:Gx)(n:Nat)(b:gf)(f:Ts)(e:Expr):Prop:=∀(T:At) (W:Wd) (m:Str->Option Value) (σ:St) (s:Shared) (a:Bool) (aF:St) (Q:Bool->Shared->Prop) (E:Value->Shared->Prop),
 T.Ok G n b W->T.Rep G s.heap m W σ->f T.cx σ=some (a,aF)->gV G T W m aF (fun _ v=>v=a) Q s->wpAny (model G.prog G.w) T.A (isTrue e T.env (eval e T.env)) Q E s
noncomputable def Gk(G:Gx)(n:Nat)(b:gf)(f:yf)(es:List Expr):Prop:=∀(T:At) (W:Wd) (m:Str->Option Value) (σ:St) (s:Shared) (as:List AV) (aF:St) (pos:Pos) (Q:List Value->Shared->Prop) (E:Value->Shared->Prop),
 T.Ok G n b W->T.Rep G s.heap m W σ->f T.cx σ=some (as,aF)->gV G T W m aF (fun W vs=>bE W as vs) Q s->wpAny (model G.prog G.w) T.A (spliced (backTo pos (starEach es T.env))) Q E s
noncomputable def Wq(G:Gx)(n:Nat)(b:gf)(op:BoolOp)(f:Ts)(es:List Expr):Prop:=∀(T:At) (W:Wd) (m:Str->Option Value) (σ:St) (s:Shared) (a:Bool) (aF:St) (Q:Bool->Shared->Prop) (E:Value->Shared->Prop),
 T.Ok G n b W->T.Rep G s.heap m W σ->f T.cx σ=some (a,aF)->gV G T W m aF (fun _ v=>v=a) Q s->wpAny (model G.prog G.w) T.A (allTrue op es T.env) Q E s
noncomputable def eI(G:Gx):Prop:=∀(T:At) (n:Nat) (b:gf) (W:Wd) (m:Str->Option Value) (σ:St) (s:Shared) (a:AV) (v:Value) (c:Bool) (Q:Bool->Shared->Prop) (E:Value->Shared->Prop),
 T.Ok G n b W->T.Rep G s.heap m W σ->VR W a v->rX G.P σ.mem a=some c->(∀tk,Q c {s with toks:=tk})->wpAny (model G.prog G.w) T.A (truthy v) Q E s
section
theorem KG{e:Expr}(tr:eI G)(hf:SE G n b f e):SE G n b (Jt G.P f) (.UnaryOp .Not e pos):=by
 intro T W m σ s a aF Q E ok R ev P
 refine af ev fun x aE e1 e2=>?_;clear ev
 refine b9 e2 fun e3 b7=>?_;clear e2;subst b7
 refine ab e3 fun c e4 e5=>?_;clear e3
 have oO:=aH e5;clear e5;subst oO
 refine wpAny_UnaryOp (hf T W m σ s x _ _ E ok R e1 fun W₁ aq ar bp ag ak aK=>?_)
 exact not_value (tr T n b W₁ m _ _ x bp c _ E (ok.mono ag) ak aK e4 fun tk=>P W₁ aq tk _ ag ak rfl)
theorem CJ{e:Expr}(tr:eI G)(hf:SE G n b f e)(he:∀env whole,isTrue e env whole=(do let v <-whole;standAt e.pos;holding [v] (truthy v))):zQ G n b (Cm G.P f) e:=by
 intro T W m σ s a aF Q E ok R ev P
 refine af ev fun x aE e1 e2=>?_;clear ev
 refine b9 e2 fun e3 cw=>?_;clear e2;subst cw
 refine wpAny_isTrue_value (hf T W m σ s x _ _ E ok R e1 fun W₁ aq ar bp ag ak aK=>?_) (he _ _)
 exact tr T n b W₁ m _ _ x bp a _ E (ok.mono ag) ak aK e3 fun tk=>P W₁ aq tk _ ag ak rfl
theorem Kw(ht:zQ G n b t e):zQ G n b (IM t) (.UnaryOp .Not e pos):=by
 intro T W m σ s a aF Q E ok R ev P
 refine af ev fun x aE e1 e2=>?_;clear ev
 refine eO e2 fun dC dk=>?_;clear e2;subst dC dk
 exact wpAny_isTrue_Not (ht T W m σ s x _ _ E ok R e1 fun W₁ aq ar bp ag ak aK=>by subst aK;exact P W₁ aq ar _ ag ak rfl)
theorem OV{f g:Ev}(ht:zQ G n b t x)(hf:SE G n b f y)(hg:SE G n b g z):SE G n b (Vt t f g) (.IfExp x y z pos):=by
 intro T W m σ s a aF Q E ok R ev P
 refine af ev fun c aE e1 e2=>?_;clear ev
 refine wpAny_IfExp (ht T W m σ s c _ _ E ok R e1 fun W₁ aq ar bp ag ak aK=>?_)
 subst aK
 induction bp with
 |true=>exact hf T W₁ m _ _ a aF _ E (ok.mono ag) ak e2 fun ae aJ aG ef ax az aV=>P ae aJ aG ef (ag.trans ax) az aV
 |false=>exact hg T W₁ m _ _ a aF _ E (ok.mono ag) ak e2 fun ae aJ aG ef ax az aV=>P ae aJ aG ef (ag.trans ax) az aV
theorem Nv:Wq G n b op (JL op) []:=by
 intro T W m σ s a aF Q E ok R ev P
 induction op with
 |And=>refine eO ev fun eD fG=>?_;clear ev;subst eD fG;exact wpAny_allTrue_And_nil (P W s.heap s.toks _ (.refl _) R rfl)
 |Or=>refine eO ev fun gF gg=>?_;clear ev;subst gF gg;exact wpAny_allTrue_Or_nil (P W s.heap s.toks _ (.refl _) R rfl)
theorem Iu{t:Ts}(ht:zQ G n b t x)(hr:Wq G n b op r rest):Wq G n b op (FJ t r op) (x::rest):=by
 intro T W m σ s a aF Q E ok R ev P
 refine af ev fun c aE e1 e2=>?_;clear ev
 induction op with
 |And=>
  refine wpAny_allTrue_And_cons (ht T W m σ s c _ _ E ok R e1 fun W₁ aq ar bp ag ak aK=>?_)
  subst aK
  induction bp with
  |true=>exact hr T W₁ m _ _ a aF _ E (ok.mono ag) ak e2 fun ae aJ aG ef ax az aV=>P ae aJ aG ef (ag.trans ax) az aV
  |false=>refine eO e2 fun gR cW=>?_;clear e2;subst gR cW;exact P W₁ aq ar _ ag ak rfl
 |Or=>
  refine wpAny_allTrue_Or_cons (ht T W m σ s c _ _ E ok R e1 fun W₁ aq ar bp ag ak aK=>?_)
  subst aK
  induction bp with
  |false=>exact hr T W₁ m _ _ a aF _ E (ok.mono ag) ak e2 fun ae aJ aG ef ax az aV=>P ae aJ aG ef (ag.trans ax) az aV
  |true=>refine eO e2 fun eY dQ=>?_;clear e2;subst eY dQ;exact P W₁ aq ar _ ag ak rfl
theorem GR(h:Wq G n b op t es):zQ G n b t (.BoolOp op es pos):=by
 intro T W m σ s a aF Q E ok R ev P
 exact wpAny_isTrue_BoolOp (h T W m σ s a aF Q E ok R ev P)
theorem GX:Gk G n b sW []:=by
 intro T W m σ s as aF pos Q E ok R ev P
 refine eO ev fun cZ dq=>?_;clear ev;subst cZ dq
 exact wpAny_items_nil (P W s.heap s.toks _ (.refl _) R trivial)
theorem CU{g:yf}(hx:isStar x=false)(hf:SE G n b f x)(hg:Gk G n b g rest):Gk G n b (zb f g) (x::rest):=by
 intro T W m σ s as aF pos Q E ok R ev P
 refine af ev fun c aE e1 e2=>?_;clear ev
 refine af e2 fun cs aY e3 e4=>?_;clear e2
 refine eO e4 fun dp fQ=>?_;clear e4;subst dp fQ
 have he:starEach (x::rest) T.env=(false,eval x T.env)::starEach rest T.env:=by
  induction x using PySem.Expr.casesOn<;>first | rfl | (exact zF hx)
 refine wpAny_items_cons (hf T W m σ s c _ _ E ok R e1 fun W₁ aq ar bp ag ak aK=>?_) he
 exact hg T W₁ m _ _ cs _ pos _ E (ok.mono ag) ak e3 fun ae aJ aG ef ax az aV=>P ae aJ aG _ (ag.trans ax) az ⟨aK.mono ax,aV⟩
theorem Rep.alloc(R:Rep G h₀ L fz h m W σ)(o:Obj)(ao:AO)(lP:o.isFreed=false)
  (ho:jD G.prog G.w G.P (W.push h.objs.size [(h.objs.size,o)]) h.objs.size ao [(h.objs.size,o)]):Rep G h₀ L fz (h.push o) m (W.push h.objs.size [(h.objs.size,o)]) (aB σ (σ.mem.push ao)):=
 R.push (R.fr.push o) (R.nw.push R.fr o lP) (fun p hp q hq=>by refine aa (dU hq) ?_;exact Heap.lt_size (R.nw p hp).1) (by simp) ho
theorem jK(h:jX ao σ=some (a,aF)):a= .o σ.mem.n/\aF=aB σ (σ.mem.push ao):=by refine eO h fun eX fO=>?_;clear h;subst eX fO;exact ⟨rfl,rfl⟩
theorem dS{C:Prop}(h:jX ao σ=some (a,aF))(k:a= .o σ.mem.n->aF=aB σ (σ.mem.push ao)->C):C:=k (jK h).1 (jK h).2
theorem G0(h:Gk G n b f es):SE G n b (EX f) (.List es pos):=by
 intro T W m σ s a aF Q E ok R ev P
 obtain ⟨as,aE,e1,e2⟩:=l4 ev
 refine au e2 fun e0 e2=>?_
 obtain ⟨rfl,rfl⟩:=jK e2
 refine wpAny_List (h T W m σ s as _ _ _ E ok R e1 fun W₁ aq ar vs ag ak aK=>⟨?_,?_⟩)
 ·refine aa (Eq.symm aK.length) (aa sizeLine_eq ?_);omega
 ·exact P _ _ ar _ (ag.trans (W₁.aS _ _)) (ak.alloc _ (.list as) rfl ⟨vs,_,rfl,aK.mono (W₁.aS _ _)⟩) (ak.eE _ _)
theorem KC(h:Gk G n b f es):SE G n b (Jr f) (.Tuple es k pos):=by
 intro T W m σ s a aF Q E ok R ev P
 obtain ⟨as,aE,e1,e2⟩:=l4 ev
 refine au e2 fun e0 e2=>?_
 obtain ⟨rfl,rfl⟩:=jK e2
 refine wpAny_Tuple (h T W m σ s as _ _ _ E ok R e1 fun W₁ aq ar vs ag ak aK=>⟨?_,?_⟩)
 ·refine aa (Eq.symm aK.length) (aa sizeLine_eq ?_);omega
 ·exact P _ _ ar _ (ag.trans (W₁.aS _ _)) (ak.alloc _ (.tup as) rfl ⟨vs,_,_,rfl,rfl,rfl,aK.mono (W₁.aS _ _)⟩) (ak.eE _ _)
end
section
theorem Rep.xY(R:Rep G h₀ L fz h m W σ)(e:σ.mem.get i=some o)(hv:VR W (.o i) v):∃a l,v= .ref a/\W.bg[i]?=some a/\W.ls[i]?=some l/\jD G.prog G.w G.P W a o l:=by
 refine R.qS i o e fun a l e1 e2 e3=>?_;clear e
 refine VR.oM hv fun b e4=>?_;clear hv
 replace e4:=e1▸e4;have fQ:=aH e4;clear e4;subst fQ
 exact ⟨_,l,rfl,e1,e2,e3⟩
@[elab_as_elim] theorem Rep.p9(R:Rep G h₀ L fz h m W σ)(e:σ.mem.get i=some o)(hv:VR W (.o i) v){C:Value->Prop}(k:∀a l,W.bg[i]?=some a->W.ls[i]?=some l->jD G.prog G.w G.P W a o l->C (.ref a)):C v:=by
 refine mX (R.xY e hv) fun a l cw x y z=>?_;clear hv;subst cw;exact k a l x y z
theorem Rep.rB(R:Rep G h₀ L fz h m W σ)(e:σ.mem.get i=some o){C:Prop}(hv:VR W (.o i) v)(k:∀a l,v= .ref a->W.bg[i]?=some a->W.ls[i]?=some l->jD G.prog G.w G.P W a o l->C):C:=let ⟨a,l,w,x,y,z⟩:=R.xY e hv;k a l w x y z
theorem Rep.isList(R:Rep G h₀ L fz h m W σ)(e:σ.mem.get i=some (.list xs))(hv:VR W (.o i) v):
  ∃a vs n,v= .ref a/\W.bg[i]?=some a/\W.ls[i]?=some [(a,listOf (List.toArray vs) n)]/\bE W xs vs/\h.IsList a vs.toArray/\(a,listOf (List.toArray vs) n)∈W.news fz:=by
 obtain ⟨a,l,rfl,e1,e2,vs,n,rfl,r⟩:=R.xY e hv
 have hm:=cD (fz:=fz) e2 cg
 exact ⟨a,vs,n,rfl,e1,e2,r,⟨_,(R.nw _ hm).1,rfl,n,rfl⟩,hm⟩
@[elab_as_elim] theorem Rep.cY(R:Rep G h₀ L fz h m W σ)(e:σ.mem.get i=some (.list xs))(hv:VR W (.o i) v){C:Value->Prop}
  (k:∀a vs n,W.bg[i]?=some a->W.ls[i]?=some [(a,listOf (List.toArray vs) n)]->bE W xs vs->h.IsList a vs.toArray->(a,listOf (List.toArray vs) n)∈W.news fz->C (.ref a)):C v:=by
 refine eL (R.isList e hv) fun a vs n dC x y z u w=>?_;clear hv;subst dC;exact k a vs n x y z u w
theorem Rep.yW(R:Rep G h₀ L fz h m W σ)(e:σ.mem.get i=some (.list xs)){C:Prop}(hv:VR W (.o i) v)
  (k:∀a vs n,v= .ref a->W.bg[i]?=some a->W.ls[i]?=some [(a,listOf (List.toArray vs) n)]->bE W xs vs->h.IsList a vs.toArray->(a,listOf (List.toArray vs) n)∈W.news fz->C):C:=by
 refine eL (R.isList e hv) fun a vs n v x y z u w=>?_;exact k a vs n v x y z u w
theorem Rep.isTup(R:Rep G h₀ L fz h m W σ)(e:σ.mem.get i=some (.tup xs))(hv:VR W (.o i) v):
  ∃a vs,v= .ref a/\bE W xs vs/\IsTup h a vs.toArray:=by
 obtain ⟨a,l,rfl,e1,e2,vs,ob,n,rfl,c,d,r⟩:=R.xY e hv
 exact ⟨a,vs,rfl,r,⟨ob,(R.nw _ (cD (fz:=fz) e2 cg)).1,c,n,d⟩⟩
@[elab_as_elim] theorem Rep.pE(R:Rep G h₀ L fz h m W σ)(e:σ.mem.get i=some (.tup xs))(hv:VR W (.o i) v){C:Value->Prop}(k:∀a vs,bE W xs vs->IsTup h a vs.toArray->C (.ref a)):C v:=by
 refine dM (R.isTup e hv) fun a vs dk x y=>?_;clear hv;subst dk;exact k a vs x y
theorem Rep.xx(R:Rep G h₀ L fz h m W σ)(e:σ.mem.get i=some (.dict es))(hv:VR W (.o i) v):
  ∃a ob kvs,v= .ref a/\W.bg[i]?=some a/\W.ls[i]?=some [(a,ob)]/\(a,ob)∈W.news fz/\ob.IsDictOf (strKind G.prog G.w) kvs/\DR W es kvs/\(a==sysModules)=false:=by
 obtain ⟨a,l,rfl,e1,e2,ob,kvs,rfl,c,lo,r⟩:=R.xY e hv
 have hm:=cD (fz:=fz) e2 cg
 exact ⟨a,ob,kvs,rfl,e1,e2,hm,c,r,lo⟩
@[elab_as_elim] theorem Rep.dP(R:Rep G h₀ L fz h m W σ)(e:σ.mem.get i=some (.dict es))(hv:VR W (.o i) v){C:Value->Prop}
  (k:∀a ob kvs,W.bg[i]?=some a->W.ls[i]?=some [(a,ob)]->(a,ob)∈W.news fz->ob.IsDictOf (strKind G.prog G.w) kvs->DR W es kvs->(a==sysModules)=false->C (.ref a)):C v:=by
 refine BJ (R.xx e hv) fun a vs n eD x y z u w t=>?_;clear hv;subst eD;exact k a vs n x y z u w t
theorem Rep.yX(R:Rep G h₀ L fz h m W σ)(e:σ.mem.get i=some (.dict es)){C:Prop}(hv:VR W (.o i) v)
  (k:∀a ob kvs,v= .ref a->W.bg[i]?=some a->W.ls[i]?=some [(a,ob)]->(a,ob)∈W.news fz->ob.IsDictOf (strKind G.prog G.w) kvs->DR W es kvs->(a==sysModules)=false->C):C:=by
 refine BJ (R.xx e hv) fun a vs n v x y z u w t=>?_;exact k a vs n v x y z u w t
end
theorem gj{ob:Obj}(h:ob.IsDictOf (strKind prog w) kvs):(kvs.map (·.1)).Nodup:=let ⟨_,_,_,_,_,_,n⟩:=h;n
theorem bE.isNil(h:bE W xs vs):(!vs.toArray.isEmpty)=full xs:=by
 induction xs using List.casesOn<;>induction vs using List.casesOn<;>first | rfl | exact h.elim | (simp [full])
theorem bE.small(h:bE W xs vs)(k:xs.length<=900):(vs.toArray.size:Int)<2 ^ 63:=by refine aa List.size_toArray (aa (Eq.symm h.length) ?_);omega
theorem DR.isNil(h:DR W es kvs):(!kvs.isEmpty)=full es:=by induction h<;>rfl
theorem jG{s:Str}(k:s.cps.toList.length<=900):((s.length:Int) !=0)=full s.cps.toList/\¬ (s.length:Int) >= 2 ^ 63:=by
 have e:s.length=s.cps.toList.length:=by show s.cps.size=_;simp
 refine aa e ?_
 refine ⟨?_,by omega⟩
 cases s.cps.toList with
 |nil=>rfl
 |cons a r=>simp [full];omega
structure qi(G:Gx):Prop where
 iW:∀a l,ah a G.P.iW=some l->∃vs dd n sl,G.K.lookup a=some ⟨.type "tuple",dd, .seq (List.toArray vs) n,sl⟩/\∀W,bE W l vs
 gl:∀x v,ah (code x) G.gl=some v->(∃a,v= .k a/\nsIn G.K mainGlobals x=some (some (.ref a)))\/((∃t,v= .ty t/\bootBuiltins x=some (.type (Cd t)))\/(∃t,v= .bi t/\bootBuiltins x=some (.builtin (biN t))))/\nsIn G.K mainGlobals x=some none/\x≠ "__name__"
theorem nT(gk:qi G){T:At}(ok:T.Ok G n b W)(R:T.Rep G h m W σ)(e:ah a G.P.iW=some l):∃vs,bE W l vs/\IsTup h a vs.toArray:=by
 refine IE (gk.iW a l e) fun vs dd n sl e1 e2=>?_
 exact ⟨vs,e2 W,⟨_,(ok.gL.X.keeps R.fr.keep) _ _ e1,rfl,n,rfl⟩⟩
theorem cI{G:Gx}(gk:qi G):eI G:=by
 intro T n b W m σ s a v c Q E ok R hv e q
 induction a with
 |none=>subst hv;have eX:=aH e;clear e;subst eX;exact truthy_none (q _)
 |bool x=>subst hv;have fO:=aH e;clear e;subst fO;exact wpAny_truthy_bool (q _)
 |int i=>
  refine aU hv fun t fG=>?_;clear hv;subst fG
  have eW:=aH e;clear e;subst eW
  refine P.truthy_int ?_
  have:(i !=0)= !(decide (i=0)):=by by_cases h:i=0<;>simp [h]
  refine aa this ?_;exact q _
 |str x=>
  refine aU hv fun t gF=>?_;clear hv;subst gF
  refine au e fun k e=>?_
  obtain rfl:=aH e
  refine P.truthy_str (jG k).2 ?_
  refine aa ((jG k).1) ?_;exact q _
 |ty t=>exact zS e
 |bi t=>exact zS e
 |k a=>
  subst hv
  refine ab e fun l e1 e2=>?_;clear e
  refine au e2 fun k e2=>?_
  obtain rfl:=aH e2
  refine ay (nT gk ok R e1) fun vs r ht=>?_
  refine truthy_tuple ht (r.small k) ?_
  refine aa r.isNil ?_;exact q _
 |o i=>
  refine ab e fun o e1 e2=>?_;clear e
  induction o with
  |list xs=>
   refine au e2 fun k e2=>?_
   obtain rfl:=aH e2
   refine R.yW e1 hv fun a vs n gg _ _ r hl _=>?_;clear e1 hv;subst gg
   refine wpAny_truthy_list hl (r.small k) ?_
   refine aa r.isNil ?_;exact q _
  |tup xs=>
   refine au e2 fun k e2=>?_
   obtain rfl:=aH e2
   refine dM (R.isTup e1 hv) fun a vs gR r hl=>?_;clear hv;subst gR
   refine truthy_tuple hl (r.small k) ?_
   refine aa r.isNil ?_;exact q _
  |dict es=>
   refine au e2 fun k e2=>?_
   obtain rfl:=aH e2
   refine R.dP e1 hv fun a ob kvs _ _ hm hd r lo=>?_;clear e1 hv
   refine wpAny_truthy_dict lo (kda_dict R.nw hm hd) (by refine aa (Eq.symm r.length) ?_;omega) ?_
   refine aa r.isNil ?_;exact q _
  |_=>exact zS e2
 |d i=>
  have tg:=R.dat.tag i v hv
  have e':Co (bN G.P i)=some c:=e
  generalize ht:bN G.P i=bZ;induction bZ with
  |any=>replace e':=ht▸e';exact zS e'
  |int=>replace e':=ht▸e';exact zS e'
  |nn=>replace e':=ht▸e';exact zS e'
  |none=>
   replace e':=ht▸e';replace tg:=ht▸tg
   have oN:=aH e';clear e';clear e;subst oN
   have tg':v= .none:=tg
   subst tg';exact truthy_none (q _)
  |str x=>
   replace e':=ht▸e';replace tg:=ht▸tg
   have mC:=aH e';clear e';subst mC
   refine dM tg fun z u ed eY k=>?_;clear tg;clear ht e;subst eY
   subst ed
   refine P.truthy_str (jG k).2 ?_
   refine aa ((jG k).1) ?_;exact q _
  |nG=>
   replace e':=ht▸e';replace tg:=ht▸tg
   have sk:=aH e';clear e';clear e;subst sk
   rcases tg with rfl | ⟨a,ob,n,rfl,hm,hc,hd⟩
   ·exact truthy_none (q _)
   ·exact truthy_tuple (items:=#[]) ⟨ob,(R.nw _ (fT (fz:=T.fz) hm)).1,hc,n,hd⟩ (by decide) (q _)
  |dict b=>
   replace e':=ht▸e';replace tg:=ht▸tg
   have oK:=aH e';clear e';clear e;subst oK
   refine eL tg fun a ob kvs ed hm hd lo qZ hk=>?_;clear tg
   subst ed
   have hm':=fT (fz:=T.fz) hm
   refine wpAny_truthy_dict lo (kda_dict R.nw hm' hd) (by omega) ?_
   refine aa qZ ?_;exact q _
  |tuple=>
   replace e':=ht▸e';replace tg:=ht▸tg
   have oH:=aH e';clear e';clear e;subst oH
   refine gW tg fun a ob vs n ed hm hc hd qZ hk=>?_;clear tg
   subst ed
   refine truthy_tuple ⟨ob,(R.nw _ (fT (fz:=T.fz) hm)).1,hc,n,hd⟩ (by refine aa List.size_toArray ?_;omega) ?_
   have:(!vs.toArray.isEmpty)=true:=by induction vs using iM with | nil=>exact absurd rfl qZ | cons _ _=>rfl
   refine aa this ?_;exact q _
section
noncomputable def Wo(G:Gx)(n:Nat)(b:gf)(op:BoolOp)(f:Ev)(es:List Expr):Prop:=∀pos,SE G n b f (.BoolOp op es pos)
theorem Nk(h:SE G n b f e):Wo G n b op f [e]:=fun _ T W m σ s a aF Q E ok R ev P=>BoolOp_one (h T W m σ s a aF Q E ok R ev P)
theorem Il(tr:eI G)(hf:SE G n b f e)(hr:Wo G n b op r (e'::rest)):Wo G n b op (xX G.P f r op) (e::e'::rest):=by
 intro pos T W m σ s a aF Q E ok R ev P
 refine af ev fun x aE e1 e2=>?_;clear ev
 refine ab e2 fun c e3 e4=>?_;clear e2
 induction op with
 |And=>
  refine BoolOp_and (hf T W m σ s x _ _ E ok R e1 fun W₁ aq ar bp ag ak aK=>?_)
  refine tr T n b W₁ m _ _ x bp c _ E (ok.mono ag) ak aK e3 fun tk=>?_
  induction c with
  |true=>exact hr pos T W₁ m aE {s with heap:=aq,toks:=tk} a aF _ E (ok.mono ag) ak e4 fun ae aJ aG ef ax az aV=>P ae aJ aG ef (ag.trans ax) az aV
  |false=>refine eO e4 fun dQ cZ=>?_;clear e4;subst dQ cZ;exact P W₁ aq tk bp ag ak aK
 |Or=>
  refine BoolOp_or (hf T W m σ s x _ _ E ok R e1 fun W₁ aq ar bp ag ak aK=>?_)
  refine tr T n b W₁ m _ _ x bp c _ E (ok.mono ag) ak aK e3 fun tk=>?_
  induction c with
  |false=>exact hr pos T W₁ m aE {s with heap:=aq,toks:=tk} a aF _ E (ok.mono ag) ak e4 fun ae aJ aG ef ax az aV=>P ae aJ aG ef (ag.trans ax) az aV
  |true=>refine eO e4 fun dq dp=>?_;clear e4;subst dq dp;exact P W₁ aq tk bp ag ak aK
end
theorem jk(env:Env)(x:Str):∀names:List (Str×NameKind),
  (names.map fun (n,k)=>if (k==NameKind.free&&env.scope.kind == .function&&env.kindOf n==some .cell) then (n,NameKind.cell) else (n,k)).lookup x=
   (names.lookup x).map fun k=>if (k==NameKind.free&&env.scope.kind == .function&&env.kindOf x==some .cell) then NameKind.cell else k
 | []=>rfl
 |(n,k)::r=>by
  have ih:=jk env x r
  show List.lookup x ((if (k==NameKind.free&&env.scope.kind == .function&&env.kindOf n==some .cell)=true then (n,NameKind.cell) else (n,k))::_)=_
  rw [List.lookup_cons]
  cases hx:x==n with
  |true=>
   have e:x=n:=by simpa using hx
   subst e
   by_cases hc:(k==NameKind.free&&env.scope.kind == .function&&env.kindOf x==some .cell)=true
   ·rw [if_pos hc,List.lookup_cons,hx];dsimp only;exact aa (Option.map_some ..) (aa (if_pos hc ..) rfl)
   ·refine aa (if_neg hc) (aa List.lookup_cons (aa hx ?_));dsimp only;exact aa (Option.map_some ..) (aa (if_neg hc ..) rfl)
  |false=>
   by_cases hc:(k==NameKind.free&&env.scope.kind == .function&&env.kindOf n==some .cell)=true
   ·refine aa (if_pos hc) ?_;simp only [List.lookup_cons,hx];exact ih
   ·refine aa (if_neg hc) ?_;simp only [List.lookup_cons,hx];exact ih
section
theorem vt(gk:qi G){T:At}(ok:T.Ok G n b W)(R:T.Rep G s.heap m W σ)
  (hg:env.globals=mainGlobals) (hb:env.builtins=builtinsNs) (e:ah (code x) G.gl=some v) (q:∀u,VR W v u->Q u s):wpAny (model G.prog G.w) T.A (loadGlobal env x) Q E s:=by
 have Tr:=topRead_of ok.gL.T
 have g1:=Tr.g.keeps R.fr.keep
 have b1:=Tr.b.keeps R.fr.keep
 rcases gk.gl x v e with ⟨a,rfl,h1⟩ | ⟨h1,h2,h3⟩
 ·exact loadGlobal_global (by refine aa hg ?_;exact g1) (mg_of ok.gL.X Tr.g h1) (q _ rfl)
 ·rcases h1 with ⟨t,rfl,h1⟩ | ⟨t,rfl,h1⟩
  ·exact loadGlobal_builtin (by refine aa hg ?_;exact g1) (mg_none_of ok.gL.X Tr.g h2) (by refine aa hb ?_;exact b1) ((Tr.builtins x h3).trans h1) (q _ rfl)
  ·exact loadGlobal_builtin (by refine aa hg ?_;exact g1) (mg_none_of ok.gL.X Tr.g h2) (by refine aa hb ?_;exact b1) ((Tr.builtins x h3).trans h1) (q _ rfl)
theorem zj{T:At}(R:T.Rep G h m W σ){cl:List (Str×Addr)}{cx:Cx}(ck:∀i,ah (code x) cx.cells=some i->∃c,W.bg[i]?=some c/\cl.lookup x=some c)
  (e:ob (ah (code x) cx.cells) (fun c=>ob (σ.mem.get c) Jy)=some a):∃c u,cl.lookup x=some c/\h.IsCell c (some u)/\VR W a u:=by
 refine ab e fun i e1 e2=>?_;clear e
 refine ab e2 fun o e3 e4=>?_;clear e2
 refine ay (ck i e1) fun c e5 e6=>?_
 induction o with
 |cell w=>
  have eW:=aH e4;clear e4;subst eW
  refine R.rB e3 (v:= .ref c) ⟨c,e5,rfl⟩ fun a' l e9 e7 e8 qa=>dM qa fun ob u qe hd r=>?_;clear qa;subst qe
  cases e9
  exact ⟨_,u,e6,⟨ob,(R.nw _ (cD (fz:=T.fz) e8 cg)).1,hd⟩,r⟩
 |_=>exact zS e4
theorem GY(gk:qi G)(H:we)(x:Str)(pos:Pos):SE G n b (den G.P H (uX G.gl b x)).ev (.Name x pos):=by
 intro T W m σ s a aF Q E ok R ev P
 unfold uX at ev
 replace ev:=(eT ..)▸ev
 by_cases hq:code x=Vz
 ·replace ev:=(decide_eq_true hq)▸ev;exact zS ev
 replace ev:=(decide_eq_false hq)▸ev
 have hd:(x==("__debug__" :Str))=false:=beq_eq_false_iff_ne.mpr fun e=>hq (by refine aa e ?_;rfl)
 have dW:(den G.P H (qU G.gl b x)).ev T.cx σ=some (a,aF):=ev
 have env:=ok.env
 induction b with
 |fn sc=>
  refine env.MS fun hc he cn scope fa kX cl e0 qe hk ck _=>?_;clear env;subst qe
  unfold qU at dW
  dsimp only at dW
  replace dW:=(cM ..)▸dW
  generalize hx:scope.names.lookup x=ir;induction ir with
  |none=>replace dW:=hx▸dW;exact zS dW
  |some k=>
   replace dW:=hx▸dW
   have Je:(envX cn scope T.L fa kX cl).kindOf x=some k:=hx
   induction k with
   | «local»=>
    refine b9 (σ:=σ) dW fun e1 b7=>?_;clear dW;clear ev;subst b7
    have e1':ah (code x) aF.loc=some a:=by unfold UB at e1;replace e1:=hc▸e1;exact e1
    refine ay (R.loc x a e1') fun u e2 r=>?_
    refine aa he (aa e0 ?_)
    exact nameX_L R.fr e2 (P W s.heap s.toks u (.refl _) R r) hk Je hd
   |cell=>
    refine b9 (σ:=σ) dW fun e1 cw=>?_;clear dW;clear ev;subst cw
    refine dM (zj R (ck x) e1) fun c u e2 e3 r=>?_
    refine aa he (aa e0 ?_)
    exact wpAny_Name (wpAny_loadName_cell hk Je e2 e3 (P W s.heap s.toks u (.refl _) R r)) hd
   |globalImplicit=>
    dsimp only at dW
    generalize hl:ah (code x) G.gl=ny;induction ny with
    |none=>replace dW:=hl▸dW;exact zS dW
    |some v=>
     replace dW:=hl▸dW
     refine eO dW fun dC dk=>?_;clear dW;clear ev;subst dC dk
     refine aa he (aa e0 ?_)
     exact Name_function_global hk Je (vt gk ok R rfl rfl hl fun u r=>P W s.heap s.toks u (.refl _) R r) hd
   |_=>exact zS dW
 |comp sc tL=>
  refine env.zg fun cn ba fa kX gu scope cl C oC m₂ y av u e0 eD W5 he fG hk ck _ hC hN hm hv bz=>?_;clear env;subst eD fG
  unfold qU at dW
  dsimp only at dW
  replace dW:=(cM ..)▸dW
  have Je:=jk T.aN x scope.names
  have U1:(compEnvC scope cl C T.aN).kindOf x=(scope.names.lookup x).map fun k=>if (k==NameKind.free&&T.aN.scope.kind == .function&&T.aN.kindOf x==some .cell) then NameKind.cell else k:=Je
  have hkk:(compEnvC scope cl C T.aN).scope.kind= .function:=hk
  generalize hx:scope.names.lookup x=rS;induction rS with
  |none=>replace dW:=hx▸dW;exact zS dW
  |some k=>
   replace dW:=hx▸dW;replace U1:=hx▸U1
   induction k with
   | «local»=>
    refine b9 (σ:=σ) dW fun e1 gF=>?_;clear dW;subst gF
    replace e1:=bz▸e1
    have e2:(Bool.rec none (some av) (Nat.beq (code y) (code x)):Option AV)=some a:=e1
    replace e2:=(eT ..)▸e2
    by_cases hyx:code y=code x
    ·replace e2:=(decide_eq_true hyx)▸e2
     have gh:=aH e2;clear e2;subst gh
     have abC:=code_inj hyx
     subst abC
     refine aa he ?_
     exact wpAny_Name (wpAny_loadName_local hkk (by refine aa U1 ?_;rfl) (hN.ns (R.nw _ (iv (W:=W) hC)).1) hm (P W s.heap s.toks u (.refl _) R hv)) hd
    ·replace e2:=(decide_eq_false hyx)▸e2;exact zS e2
   |free=>
    dsimp only at dW
    replace dW:=(cM ..)▸dW
    generalize hy:ba.names.lookup x=tR;induction tR with
    |none=>replace dW:=hy▸dW;exact zS dW
    |some k'=>
     replace dW:=hy▸dW
     induction k' with
     |cell=>
      refine b9 (σ:=σ) dW fun e1 gg=>?_;clear dW;clear ev;subst gg
      refine dM (zj R (ck x hx) e1) fun c u' e2 e3 r=>?_
      have h0:T.aN.kindOf x=some .cell:=by refine aa e0 ?_;exact hy
      have h1:T.aN.scope.kind= .function:=by refine aa e0 ?_;exact W5
      refine aa he ?_
      exact wpAny_Name (wpAny_loadName_cell hkk (by refine aa U1 (aa h0 (aa h1 ?_));rfl) e2 e3 (P W s.heap s.toks u' (.refl _) R r)) hd
     |_=>exact zS dW
   |globalImplicit=>
    dsimp only at dW
    generalize hl:ah (code x) G.gl=Gn;induction Gn with
    |none=>replace dW:=hl▸dW;exact zS dW
    |some v=>
     replace dW:=hl▸dW
     refine eO dW fun gR cW=>?_;clear dW;clear ev;subst gR cW
     refine aa he ?_
     exact Name_function_global hkk (by refine aa U1 ?_;rfl) (vt gk ok R (by refine aa e0 ?_;rfl) (by refine aa e0 ?_;rfl) hl fun u r=>P W s.heap s.toks u (.refl _) R r) hd
   |_=>exact zS dW
theorem CW(H:we)(c:Const)(k:Nat)(pos:Pos):SE G n b (den G.P H (th c)).ev (.Constant c k pos):=by
 intro T W m σ s a aF Q E ok R ev P
 induction c with
 |none=>refine eO ev fun eY dQ=>?_;clear ev;subst eY dQ;exact wpAny_Constant_none (P W s.heap s.toks _ (.refl _) R rfl)
 |bool x=>refine eO ev fun cZ dq=>?_;clear ev;subst cZ dq;exact wpAny_Constant_bool (P W s.heap s.toks _ (.refl _) R rfl)
 |int i=>refine eO ev fun dp fQ=>?_;clear ev;subst dp fQ;exact wpAny_Constant_int (P W s.heap (s.toks+1) _ (.refl _) R ⟨_,rfl⟩)
 |str x=>refine eO ev fun eX fO=>?_;clear ev;subst eX fO;exact wpAny_Constant_str (P W s.heap (s.toks+1) _ (.refl _) R ⟨_,rfl⟩)
 |_=>exact zS ev
end
structure WB(G:Gx)(C:Addr)(ci:zU):Prop where
 get:∀x,plainGet G.K C x=true
 dict:hasDictIn G.K C=true
 set:findIn G.K (.ref C) "__setattr__" =some (some (.builtin "object.__setattr__"))
 plain:plainOver G.K C=true
 own:∀x,dH (code x) ci.BZ=some .own->(∃attr,findIn G.K (.ref C) x=some attr/\noGet G.K attr=true)/\takerIn G.K C x=some none
 val:∀x v,dH (code x) ci.BZ=some (.val v)->∃u,findIn G.K (.ref C) x=some (some u)/\specialIn G.K u "__get__" =some none/\handedIn u=true/\copiedNames.contains x=false/\∀W,VR W v u
 fn:∀x f,dH (code x) ci.BZ=some (.fn f)->findIn G.K (.ref C) x=some (some (.ref f))/\isFn G.K (.ref f)=true
 make:makesIn G.K C=true
 init:findIn G.K (.ref C) "__init__" =some (some (.ref ci.init))/\isFn G.K (.ref ci.init)=true
 keep:keepIn G.K (.ref C)=true
noncomputable def dX(G:Gx):Prop:=∀C ci,ah C G.P.cls=some ci->WB G C ci
section
theorem Rep.handed(R:Rep G h₀ L fz h m W σ)(hv:VR W a v):handedIn v=true:=by
 induction a with
 |d i=>exact R.dat.hd i v hv
 |bi x=>subst hv;induction x<;>exact (by decide +kernel)
 |int i=>refine VR.mM hv fun t=>?_;clear hv;rfl
 |str i=>refine VR.eB hv fun t=>?_;clear hv;rfl
 |o i=>refine VR.oM hv fun t _=>?_;clear hv;rfl
 |_=>subst hv;rfl
theorem Rep.inst(R:Rep G h₀ L fz h m W σ)(e:σ.mem.get i=some (.inst C fs))(hv:VR W (.o i) v):
  ∃a dx es k ci,v= .ref a/\W.bg[i]?=some a/\W.ls[i]?=some [(a,instObj C dx),(dx,dictOf es k)]/\InstAt h a (instObj C dx) C (some (dictOf es k))/\FR W fs es/\ah C G.P.cls=some ci/\(∀x v,ah x fs=some v->dH x ci.BZ=some .own):=by
 obtain ⟨a,l,rfl,e1,e2,dx,es,k,ci,rfl,f,c,w⟩:=R.xY e hv
 exact ⟨a,dx,es,k,ci,rfl,e1,e2,InstAt.of_news R.nw (cD (fz:=fz) e2 cg) (cD (fz:=fz) e2 (fw _ cg)),f,c,w⟩
@[elab_as_elim] theorem Rep.En(R:Rep G h₀ L fz h m W σ)(e:σ.mem.get i=some (.inst C fs))(hv:VR W (.o i) v){X:Value->Prop}
  (K:∀a dx es k ci,W.bg[i]?=some a->W.ls[i]?=some [(a,instObj C dx),(dx,dictOf es k)]->InstAt h a (instObj C dx) C (some (dictOf es k))->FR W fs es->ah C G.P.cls=some ci->(∀x v,ah x fs=some v->dH x ci.BZ=some .own)->X (.ref a)):X v:=by
 refine FV (R.inst e hv) fun a dx es k ci dk x y z u w t=>?_;clear hv;subst dk;exact K a dx es k ci x y z u w t
theorem Ip(ca:dX G){T:At}(ok:T.Ok G n b W)(R:T.Rep G s.heap m W σ)
  (hv:VR W x v) (e:vx G.P σ.mem x (code name)=some a) (q:∀u tk,VR W a u->Q u {s with toks:=tk}):wpAny (model G.prog G.w) T.A (getAttr v name true) Q E s:=by
 induction x with
 |o i=>
  refine ab e fun o e1 e2=>?_;clear e
  induction o with
  |inst C fs=>
   refine ab e2 fun ci e3 e4=>?_;clear e2
   refine ab e4 fun at_ e5 e6=>?_;clear e4
   refine R.En e1 hv fun ad dx es k ci' _ _ I f e7 w=>?_;clear e1 hv
   replace e7:=e3▸e7;have gh:=aH e7;clear e7;subst gh
   have co:=ca C _ e3
   refine ay (f.look name) fun r g1 g2=>?_
   induction at_ with
   |own=>
    refine aM (co.own name e5) fun fG _=>?_;obtain ⟨attr,o1,o2⟩:=fG
    have N9:ah (code name) fs=some a:=e6
    replace g2:=N9▸g2
    refine g2.someE fun u gF hu=>?_;subst gF
    exact get_own R.fr ok.gL.X I (co.get name) co.dict o1 o2 g1 (R.handed hu) (q u _ hu)
   |val y=>
    have jm:=aH e6;clear e6;subst jm
    refine qC (co.val name _ e5) fun u o1 o2 o3 o4 o5=>?_
    have hn:ah (code name) fs=none:=by
     generalize z:ah (code name) fs=bZ;induction bZ with
     |none=>rfl
     |some y=>have:=w _ _ z;replace this:=e5▸this;exact nomatch this
    replace g2:=hn▸g2
    have:=g2.none;subst this
    exact get_cls R.fr ok.gL.X I (co.get name) co.dict o1 o2 o3 o4 g1 (q u _ (o5 W))
   |fn f=>exact zS e6
  |_=>exact zS e2
 |_=>exact zS e
theorem jQ(h:bh e=true)(attr:Str)(env:Env)(whole:Sem Value):attributeBase e attr env whole=whole:=by
 induction e using PySem.Expr.casesOn with
 |Call f as ks pos=>
  induction f using PySem.Expr.casesOn with
  |Name id p=>
   induction as using iM with
   |nil=>
    induction ks using iM with
    |nil=>exact zT h
    |cons _ _=>rfl
   |cons _ _=>rfl
  |_=>rfl
 |_=>rfl
theorem G4(ca:dX G){f:Ev}(hp:bh e=true)(hf:SE G n b f e):SE G n b (E1 G.P f (code name)) (.Attribute e name pos):=by
 intro T W m σ s a aF Q E ok R ev P
 refine af ev fun x aE e1 e2=>?_;clear ev
 refine b9 e2 fun e3 gg=>?_;clear e2;subst gg
 refine Attribute_any_ (hf T W m σ s x _ _ E ok R e1 fun W₁ aq ar bp ag ak aK=>?_) ?_
 ·exact Ip ca (ok.mono ag) ak aK e3 fun u tk hu=>P W₁ aq tk u ag ak hu
 ·show (do
   let o <-attributeBase e name T.env (eval e T.env)
   standAt pos.atName
   let r <-holding [o] (getAttr o name true)
   letTemporaryGo e o r
   pure r)=_
  exact aa (jQ hp ..) rfl
theorem GN(hs:∀o i,subscripted slice false o i=operate [o,i] (getItem o i))
  (h:wpAny (model prog w) A (eval value env) (fun o t6=>wpAny (model prog w) A (eval slice env) (fun i jS=>(∃T id,typeLookup (.type T) "__getitem__" =pure (some (.builtin id))/\jS.TypeIs o T)/\wpAny (model prog w) A (getItem o i) Q E jS) E t6) E s):
  wpAny (model prog w) A (eval (.Subscript value slice pos) env) Q E s:=by
 refine aa (eval_Subscript ..) ?_
 refine wpAny_bind (wpAny_mono h (fun o t6 aq=>wpAny_bind (wpAny_holding (wpAny_mono aq (fun i jS aJ=>wpAny_bind (wpAny_standAt ?_)) fun _ _ x=>x))) fun _ _ x=>x)
 refine aM aJ fun gR aJ=>?_;obtain ⟨T,id,hl,hT⟩:=gR
 refine wpAny_bind ?_
 refine aa (getitemInPython_of_ne hT.not_modules) ?_
 refine wpAny_bind (wpAny_specialOf hT hl ?_)
 refine wpAny_pure (wpAny_bind ?_)
 refine aa (hs ..) ?_
 exact wpAny_operating (wpAny_mono aJ (fun r qj bq=>wpAny_bind (wpAny_letTemporaryGo (wpAny_pure bq))) fun _ _ x=>x)
noncomputable def oY(e:Expr):Bool:= !Nat.beq e.ctorIdx 26
theorem z3(h:oY slice=true)(o i:Value):subscripted slice false o i=operate [o,i] (getItem o i):=by
 induction slice using PySem.Expr.casesOn<;>first | rfl | exact zT h
theorem strAt{x:Str}(h:FC x.cps.toList k=some c):(seqIndex? (k:Int) x.length).bind (x.cps[·]?)=some c:=by
 replace h:=(qb ..)▸h
 have hk:k<x.cps.toList.length:=(jN h).1
 have hk':(k:Int)<x.length:=by show (k:Int)<((x.cps.size:Nat):Int);simpa using hk
 refine aa (seqIndex_of (Int.natCast_nonneg k) hk') ?_
 show x.cps[k]?=some c
 simpa using h
theorem Eg(gk:qi G){T:At}(ok:T.Ok G n b W)(R:T.Rep G s.heap m W σ)
  (hv:VR W x v) (e:ob (I8 G.P σ.mem x) (fun xs=>short xs (FC xs k))=some a) (q:∀r tk,VR W a r->Q r {s with toks:=tk}):
  (∃T id,typeLookup (.type T) "__getitem__" =pure (some (.builtin id))/\s.TypeIs v T)/\wpAny (model G.prog G.w) T.A (getItem v (.int (Int.ofNat k) t)) Q E s:=by
 refine ab e fun xs e1 e2=>?_;clear e
 refine au e2 fun hs e3=>?_;clear e2
 replace e3:=(qb ..)▸e3
 have hk:k<xs.length:=(jN e3).1
 have b1: -(2 ^ 63)<=Int.ofNat k:=by show -(2 ^ 63)<=((k:Nat):Int);omega
 have b2:Int.ofNat k<2 ^ 63:=by show ((k:Nat):Int)<2 ^ 63;omega
 have tup:∀{ad:Addr} {vs:List Value},bE W xs vs->IsTup s.heap ad vs.toArray->(∃T id,typeLookup (.type T) "__getitem__" =pure (some (.builtin id))/\s.TypeIs (.ref ad) T)/\wpAny (model G.prog G.w) T.A (getItem (.ref ad) (.int (Int.ofNat k) t)) Q E s:=by
  intro ad vs r ht
  refine r.qu e3 fun z g1 g2=>?_
  exact ⟨⟨_,_,slot_tuple_getitem.lookup,ht.typeIs⟩,getItem_tuple ht b1 b2 (seqIndex_of (Int.natCast_nonneg k) (by refine aa List.size_toArray (aa (Eq.symm r.length) ?_);exact Int.ofNat_lt.mpr hk)) (by simpa using g1) (q z _ g2)⟩
 induction x with
 |k c=>
  subst hv
  refine ay (nT gk ok R e1) fun vs r ht=>?_
  exact tup r ht
 |o i=>
  refine ab e1 fun o e4 e5=>?_;clear e1
  induction o with
  |list xs'=>
   have mD:=aH e5;clear e5;clear hs hk tup;subst mD
   refine R.cY e4 hv fun ad vs nn _ _ r hl _=>?_;clear e4 hv
   refine r.qu e3 fun z g1 g2=>?_
   exact ⟨⟨_,_,slot_list_getitem.lookup,hl.typeIs⟩,wpAny_getItem_list hl (Int.natCast_nonneg k) b2 (by simpa using g1) (q z _ g2)⟩
  |tup xs'=>
   have oO:=aH e5;clear e5;clear hs hk;subst oO
   refine R.pE e4 hv fun ad vs r ht=>?_;clear e4 hv
   exact tup r ht
  |_=>exact zS e5
 |_=>exact zS e1
theorem HN(gk:qi G){T:At}(ok:T.Ok G n b W)(R:T.Rep G s.heap m W σ)
  (hv:VR W x v) (hu:VR W y u) (e:I9 G.P σ.mem x y=some a) (q:∀r tk,VR W a r->Q r {s with toks:=tk}):
  (∃T id,typeLookup (.type T) "__getitem__" =pure (some (.builtin id))/\s.TypeIs v T)/\wpAny (model G.prog G.w) T.A (getItem v u) Q E s:=by
 induction y with
 |str k=>
  refine VR.eB hu fun t=>?_;clear hu
  induction x with
  |o i=>
   refine ab e fun o e1 e2=>?_;clear e
   induction o with
   |dict es=>
    have H9:bP (code k) es=some a:=e2
    refine R.dP e1 hv fun ad ob kvs _ _ hm hd r lo=>?_;clear e1 hv
    have g:=r.look k
    replace g:=H9▸g
    refine g.someE fun z g1 g2=>?_
    exact ⟨⟨_,_,slot_dict_getitem.lookup,(kda_dict R.nw hm hd).typeIs⟩,kdt_getItem R.nw hm hd (strKind_is _ _ _ _) g1 (q z _ g2)⟩
   |pmap kn j=>
    refine ab e2 fun ov e3 e4=>?_;clear e2
    have Xe:ov=some a:=e4
    subst Xe
    refine R.p9 e1 hv fun ad l _ e2 qa=>jB qa fun ob kvs qe hd _ _ g=>?_;clear qa;subst qe
    have hm:=cD (fz:=T.fz) e2 cg
    refine ay ((g k _ e3).some) fun z g1 g2=>?_
    exact ⟨⟨_,_,slot_dict_getitem.lookup,(kda_dict R.nw hm hd).typeIs⟩,kdt_getItem R.nw hm hd (strKind_is _ _ _ _) g1 (q z _ g2)⟩
   |_=>exact zS e2
  |d i=>
   refine ab e fun r e1 e2=>?_;clear e
   refine ab e2 fun j dq e3=>?_;clear e2;subst dq
   have su:=aH e3;clear e3;subst su
   refine wg (R.dat.dg i k _ e1 v hv) fun ad ob kvs dp hf hd _ g=>?_;clear hv;subst dp
   refine g.someE fun z g1 g2=>?_
   have hm:=fT (fz:=T.fz) hf
   exact ⟨⟨_,_,slot_dict_getitem.lookup,(kda_dict R.nw hm hd).typeIs⟩,kdt_getItem R.nw hm hd (strKind_is _ _ _ _) g1 (q z _ g2)⟩
  |_=>exact zS e
 |int j=>
  refine VR.mM hu fun t=>?_;clear hu
  induction x with
  |d i=>
   induction j with
   |negSucc k=>exact zS e
   |ofNat k=>
    refine ab e fun j e1 e2=>?_;clear e
    have oN:=aH e2;clear e2;subst oN
    refine FV (R.dat.ds i k j e1 v hv) fun ad ob vs z u eX hf hc hd hk hu hg=>?_;clear hv;subst eX
    have ht:IsTup s.heap ad vs.toArray:=⟨ob,(R.nw _ (fT (fz:=T.fz) hf)).1,hc,z,hd⟩
    have hl:k<vs.length:=(jN hu).1
    exact ⟨⟨_,_,slot_tuple_getitem.lookup,ht.typeIs⟩,getItem_tuple ht (by show -(2 ^ 63)<=((k:Nat):Int);omega) (by show ((k:Nat):Int)<2 ^ 63;omega) (seqIndex_of (Int.natCast_nonneg k) (by refine aa List.size_toArray ?_;exact Int.ofNat_lt.mpr hl)) (by simpa using hu) (q u _ hg)⟩
  |str z=>
   refine VR.eB hv fun t'=>?_;clear hv
   induction j with
   |negSucc k=>exact zS e
   |ofNat k=>
    refine au (l:=z.cps.toList) e fun hs e1=>?_;clear e
    refine ab e1 fun c e2 e3=>?_;clear e1
    have mC:=aH e3;clear e3;subst mC
    have hk:k<z.cps.toList.length:=by replace e2:=(qb ..)▸e2;exact (jN e2).1
    exact ⟨⟨_,_,PySem.F.slot_str_getitem.lookup,typeIs_str _ _ _⟩,PySem.P.getItem_str (by simp;omega) (strAt e2) (q _ _ ⟨_,rfl⟩)⟩
  |o i=>
   induction j with
   |negSucc k=>exact zS e
   |ofNat k=>exact Eg gk ok R (x:= .o i) hv e q
  |k c=>
   induction j with
   |negSucc k=>exact zS e
   |ofNat k=>exact Eg gk ok R (x:= .k c) hv e q
  |_=>
   induction j with
   |negSucc k=>exact zS e
   |ofNat k=>exact nomatch (show (none:Option AV)=some a from e)
 |_=>exact zS e
theorem KD(gk:qi G)(hs:oY i=true)(hf:SE G n b f e)(hg:SE G n b g i):SE G n b (Js G.P f g) (.Subscript e i pos):=by
 intro T W m σ s a aF Q E ok R ev P
 refine af ev fun x aE e1 e2=>?_;clear ev
 refine af e2 fun y aY e3 e4=>?_;clear e2
 refine b9 e4 fun e5 eW=>?_;clear e4;subst eW
 refine GN (z3 hs) (hf T W m σ s x _ _ E ok R e1 fun W₁ aq ar bp ag ak aK=>?_)
 refine hg T W₁ m _ _ y _ _ E (ok.mono ag) ak e3 fun ae aJ aG ef ax az aV=>?_
 exact HN gk (s:={s with heap:=aJ,toks:=aG}) (ok.mono (ag.trans ax)) az (aK.mono ax) aV e5 fun r tk hr=>P ae aJ tk r (ag.trans ax) az hr
end
end
section
open PySem PySem.W PySem.Calls PyProof.Rows PyProof.V PySem.Spec PySem.SeqAt
theorem kL:∀{xs ys:List AV} {c:Bool},rt f xs ys=some c->xs.length=ys.length->∃e:Nat->Bool,(∀(j:Nat) x y,xs[j]?=some x->ys[j]?=some y->f x y=some (e j))/\c=(List.range xs.length).all e
 | [],[],c,h,_=>by have eX:=aH h;clear h;subst eX;exact ⟨fun _=>true,by simp,rfl⟩
 | [],_::_,_,_,h=>by simp at h
 |_::_,[],_,_,h=>by simp at h
 |a::r,b::q,c,h,hl=>by
  refine ab h fun z h1 h2=>?_;clear h
  refine ab h2 fun w h3 h4=>?_;clear h2
  have fO:=aH h4;clear h4;subst fO
  refine ay (kL h3 (by simpa using hl)) fun e h5 b7=>?_;clear h3;subst b7
  refine ⟨fun j=>match j with | 0=>z | k+1=>e k,fun j x y hx hy=>?_,?_⟩
  ·induction j using Nat.casesOn with
   |zero=>simp only [List.getElem?_cons_zero,Option.some.injEq] at hx hy;subst hx;subst hy;exact h1
   |succ j=>simp only [List.getElem?_cons_succ] at hx hy;exact h5 j x y hx hy
  ·refine aa List.length_cons (aa List.range_succ_eq_map (aa List.all_cons (aa List.all_map ?_)));rfl
theorem lZ(A:Around)(s:Shared)(x y:Str)(t u:Tok):eK A s (.str x t) (.str y u) (x==y):=⟨EqAt.str_str x t y u,RcAt.str_str x t y u,RcNeAt.str_str x t y u⟩
section
variable {G:Gx}
theorem Rep.Jm(R:Rep G h₀ L fz h m W σ):∀p∈W.fx,h.get? p.1=some p.2:=fun p hp=>(R.nw p (fT hp)).1
theorem Rep.apart(R:Rep G h₀ L fz h m W σ){i j:Nat}(hij:i≠j)(hi:W.ls[i]?=some (u++(a,oa)::v))(hj:W.ls[j]?=some (u'++(c,oc)::v')):a≠c:=by
 refine R.iu hi fun pre post e1 e2 h1 h2=>?_
 have hm:(c,oc)∈W.news fz:=cD hj (List.mem_append_right _ cg)
 refine iJ (jh hi) fun A B e3 e4=>?_
 intro e
 subst e
 have hj':(W.ls.set i [])[j]?=some (u'++(a,oc)::v'):=by refine aa (List.getElem?_set_ne hij) ?_;exact hj
 replace hj':=(e4 ..)▸hj'
 have qq:(a,oc)∈(A ++ []::B).flatten:=List.mem_flatten.mpr ⟨_,kW hj',List.mem_append_right _ cg⟩
 have nd:=R.nd
 have hs:W.news fz=(A++(u++(a,oa)::v)::B).flatten++(W.fx++fz):=by unfold Wd.news;exact aa (Eq.symm e3) rfl
 replace nd:=hs▸nd
 simp only [List.flatten_append,List.flatten_cons,List.nil_append,List.mem_append] at qq
 simp only [List.flatten_append,List.flatten_cons,List.map_append,List.map_cons] at nd
 rcases qq with hA | hB
 ·have q:=List.mem_map_of_mem (f:=(·.1)) hA
  rw [eP,List.nodup_append] at nd
  exact nd.2.2 _ q a (by simp) rfl
 ·have q:=List.mem_map_of_mem (f:=(·.1)) hB
  rw [eP,List.nodup_append] at nd
  have nd2:=nd.2.1
  rw [eP,eP,List.nodup_append] at nd2
  have nd3:=nd2.2.1
  rw [List.cons_append,List.nodup_cons] at nd3
  exact nd3.1 (by simp only [List.mem_append];first | exact Or.inr (Or.inl q) | exact Or.inl (Or.inr q) | exact Or.inl (Or.inl (Or.inr q)))
theorem iA(x:IsTup h a UI):h.IsTuple a UI:=x
theorem GV(ih:∀a x v,f a=some x->VR W a v->IsL G.prog G.w fx lf x (.v v))(h:DR W es kvs):∀{l:PV},OQ f es=some l->IsL G.prog G.w fx lf l (.d kvs):=by
 induction h with
 |nil=>intro l e;have eW:=aH e;clear e;subst eW;exact .xP
 |cons hv _ h2=>
  intro l e
  refine ab e fun a e1 e2=>?_;clear e
  refine ab e2 fun r e3 e4=>?_;clear e2
  have gh:=aH e4;clear e4;subst gh
  exact .ent (ih _ _ _ e1 hv) (h2 e3)
theorem sd(ih:∀a x v,f a=some x->VR W a v->IsL G.prog G.w fx lf x (.v v)):∀{xs:List AV} {vs:List Value},bE W xs vs->∀{l:PV},Ky f xs=some l->IsL G.prog G.w fx lf l (.l vs)
 | [],[],_,l,e=>by have jm:=aH e;clear e;subst jm;exact .nil
 |x::xs,v::vs,h,l,e=>by
  refine ab e fun a e1 e2=>?_;clear e
  refine ab e2 fun r e3 e4=>?_;clear e2
  have mD:=aH e4;clear e4;subst mD
  exact .cons (ih _ _ _ e1 h.1) (sd ih h.2 e3)
 | [],_::_,h,_,_=>h.elim
 |_::_,[],h,_,_=>h.elim
theorem Fz(h:(Bool.rec none o (Nat.blt i n):Option α)=some a):i<n/\o=some a:=by
 generalize q:Nat.blt i n=bZ;induction bZ with
 |false=>replace h:=q▸h;exact zS h
 |true=>replace h:=q▸h;exact ⟨zd q,h⟩
theorem oy(R:Rep G h₀ L fz h m W σ)(W6:∀j l,dG j ks=false->W.ls[j]?=some l->∀p∈l,p∈fx):∀(k:Nat) (a:AV) (x:PV) (v:Value),Kz ks kn σ.mem k a=some x->VR W a v->IsL G.prog G.w fx (EH kn W.gam) x (.v v)
 | 0,_,_,_,e,_=>zS e
 |k+1,a,x,v,e,hv=>by
  have e':OO ks kn (Kz ks kn σ.mem k) σ.mem a=some x:=e
  induction a with
  |none=>have oO:=aH e';clear e';clear e;subst oO;subst hv;exact .none
  |d i=>
   refine aM (Fz (show (Bool.rec none (some (PV.int i)) (Nat.blt i kn):Option PV)=some x from e')) fun h1 h2=>?_
   have su:=aH h2;clear h2;clear e e';subst su
   exact .int ⟨i,rfl,h1,hv⟩
  |str s=>have oN:=aH e';clear e';clear e;subst oN;refine VR.eB hv fun t=>?_;clear hv;exact .str
  |o j=>
   have M5:(Bool.rec (ob (σ.mem.get j) (OP (Kz ks kn σ.mem k))) none (dG j ks):Option PV)=some x:=e'
   generalize sU:dG j ks=ir;induction ir with
   |true=>replace M5:=sU▸M5;exact zS M5
   |false=>
   replace M5:=sU▸M5
   refine ab M5 fun o e1 e2=>?_;clear M5
   refine R.p9 e1 hv fun ad l ha hl ho=>?_;clear e1 hv
   have U3:=W6 j l sU hl
   induction o with
   |dict es=>
    refine mX ho fun ob kvs dk c lo r=>?_;clear ho;clear hl;subst dk
    refine au (l:=es) e2 fun hs e3=>?_;clear e2
    refine ab e3 fun p e4 e5=>?_;clear e3
    have mC:=aH e5;clear e5;clear e e';subst mC
    exact .dict (U3 _ cg) c lo (by refine aa (Eq.symm r.length) ?_;exact hs) (GV (oy R W6 k) r e4)
   |list xs=>
    refine iJ ho fun vs n eD r=>?_;clear ho;clear hl;subst eD
    refine au (l:=xs) e2 fun hs e3=>?_;clear e2
    refine ab e3 fun p e4 e5=>?_;clear e3
    have sk:=aH e5;clear e5;clear e e';subst sk
    exact .list (U3 _ cg) rfl rfl (by refine aa (Eq.symm r.length) ?_;exact hs) (sd (oy R W6 k) r e4)
   |tup xs=>
    refine mj ho fun vs ob n fG c d r=>?_;clear ho;clear hl;subst fG
    refine au (l:=xs) e2 fun hs e3=>?_;clear e2
    refine ab e3 fun p e4 e5=>?_;clear e3
    have oK:=aH e5;clear e5;clear e e';subst oK
    exact .tup (U3 _ cg) c d (by refine aa (Eq.symm r.length) ?_;exact hs) (sd (oy R W6 k) r e4)
   |_=>exact zS e2
  |_=>exact zS e'
theorem E3{b:Bool}(R:Rep G h₀ L fz s.heap m W σ)(hu:A.units+200<cLine)(hi:VR W (.d i) u)(hj:VR W (.o j) v)(e:eqG G.P σ.mem c i j=some b):
  eK A s (bif c then v else u) (bif c then u else v) b:=by
 refine aM (Fz (show (Bool.rec none (ob (Kz [] G.P.kn σ.mem 4 (.o j)) fun x=>DL c i x G.P.pT) (Nat.blt i G.P.kn):Option Bool)=some b from e)) fun h1 e1=>?_
 refine ab e1 fun x e2 e3=>?_;clear e1
 exact R.dat.pT c i x b h1 e3 u v (W.news fz) hi (fun p hp=>fT hp) (oy R (fun _ _ _ h p hp=>cD h hp) 4 _ x v e2 hj) A s hu fun p hp=>(R.nw p hp).1
theorem vJ{s:Shared}(R:Rep G h₀ L fz s.heap m W σ):∀(k:Nat) (A:Around) (x y:AV) (u v:Value) (c:Bool),
  A.units+k+200<cLine->VR W x u->VR W y v->E5 G.P k σ.mem x y=some c->eK A s u v c
 | 0,_,_,_,_,_,_,_,_,_,e=>zS e
 |k+1,A,x,y,u,v,c,hu,hx,hy,e=>by
  have e':eqS G.P (E5 G.P k σ.mem) σ.mem x y=some c:=e
  have ih:=vJ R k A.in1
  have hu1:A.in1.units+k+200<cLine:=by show A.units+1+k+200<cLine;omega
  induction x with
  |none=>
   subst hx
   induction y with
   |none=>subst hy;have oH:=aH e';clear e';clear e;subst oH;exact ⟨EqAt.same _,RcAt.none_none,RcNeAt.none_none⟩
   |str z=>refine VR.eB hy fun t=>?_;clear hy;have w6:=aH e';clear e';clear e;subst w6;exact ⟨EqAt.none_str z t,RcAt.none_str z t,RcNeAt.none_str z t⟩
   |_=>exact zS e'
  |bool p=>
   subst hx
   induction y with
   |bool q=>subst hy;have w5:=aH e';clear e';clear e;subst w5;exact ⟨EqAt.bool_bool p q,RcAt.bool_bool p q,RcNeAt.bool_bool p q⟩
   |_=>exact zS e'
  |int p=>
   refine VR.mM hx fun t=>?_;clear hx
   induction y with
   |int q=>
    refine VR.mM hy fun t'=>?_;clear hy
    have wZ:=aH e';clear e';clear e;subst wZ
    have:decide (p=q)=(p==q):=by by_cases h:p=q<;>simp [h]
    refine aa this ?_
    exact ⟨EqAt.int_int p t q t',RcAt.int_int p t q t',RcNeAt.int_int p t q t'⟩
   |_=>exact zS e'
  |str p=>
   refine VR.eB hx fun t=>?_;clear hx
   induction y with
   |none=>subst hy;have Dz:=aH e';clear e';clear e;subst Dz;exact ⟨EqAt.str_none p t,RcAt.str_none p t,RcNeAt.str_none p t⟩
   |str q=>refine VR.eB hy fun t'=>?_;clear hy;have Dy:=aH e';clear e';clear e;subst Dy;refine aa (IT ..) ?_;exact lZ A s p q t t'
   |_=>exact zS e'
  |d i=>
   induction y with
   |d j=>
    exact R.dat.eq i j u v c hx hy e' A s (uA hu) R.Jm
   |str q=>
    refine VR.eB hy fun t'=>?_;clear hy
    exact R.dat.jO i q u c t' hx e' A s (uA hu) R.Jm
   |o j=>exact E3 (c:=false) R (uA hu) hx hy e'
   |_=>exact zS e'
  |o i=>
   induction y with
   |d j=>exact E3 (c:=true) R (uA hu) hy hx e'
   |o j=>
    have e2:(Bool.rec (ob (σ.mem.get i) fun x=>ob (σ.mem.get j) fun y=>eqO (E5 G.P k σ.mem) x y) none (Nat.beq i j):Option Bool)=some c:=e'
    replace e2:=(eT ..)▸e2
    by_cases q:i=j
    ·replace e2:=(decide_eq_true q)▸e2;exact zS e2
    ·replace e2:=(decide_eq_false q)▸e2
     refine ab e2 fun o1 g1 e3=>?_;clear e2
     refine ab e3 fun o2 g2 e4=>?_;clear e3
     induction o1 with
     |list xs=>
      induction o2 with
      |list ys=>
       refine R.cY g1 hx fun a1 vs n1 _ l1 r1 HS _=>?_;clear g1 hx
       refine R.cY g2 hy fun a2 us n2 _ l2 r2 BU _=>?_;clear g2 hy
       have ne:a1≠a2:=R.apart (u:=[]) (u':=[]) q l1 l2
       have e5:(Bool.rec (some false) (rt (E5 G.P k σ.mem) xs ys) (Nat.beq xs.length ys.length):Option Bool)=some c:=e4
       replace e5:=(eT ..)▸e5
       by_cases hl:xs.length=ys.length
       ·replace e5:=(decide_eq_true hl)▸e5
        refine ay (kL e5 hl) fun ee h1 dp=>?_;clear e e' e4;subst dp
        have he:∀j (p1:j<vs.toArray.size) (p2:j<us.toArray.size),EqAt A.in1 s vs.toArray[j] us.toArray[j] (ee j):=by
         intro j p1 p2
         replace p1:=List.size_toArray▸p1;replace p1:=(Eq.symm r1.length)▸p1
         replace p2:=List.size_toArray▸p2;replace p2:=(Eq.symm r2.length)▸p2
         refine r1.qu (iV p1) fun z1 w1 w2=>?_
         refine r2.qu (iV p2) fun z2 w3 w4=>?_
         have k1:vs.toArray[j]=z1:=by simpa using (jN w1).2
         have k2:us.toArray[j]=z2:=by simpa using (jN w3).2
         refine aa k1 (aa k2 ?_)
         exact (ih _ _ _ _ _ hu1 w2 w4 (h1 j _ _ (iV p1) (iV p2))).1
        have AW:vs.toArray.size=us.toArray.size:=by exact aa List.size_toArray (aa List.size_toArray (aa (Eq.symm r1.length) (aa (Eq.symm r2.length) (aa hl rfl))))
        have hlen:xs.length=vs.toArray.size:=by exact aa List.size_toArray (aa r1.length rfl)
        refine aa hlen ?_
        have rc:=RcAt.lists (A:=A) HS BU AW (uB hu) he
        exact ⟨EqAt.of_refs ne rc,rc,RcNeAt.lists HS BU AW (uB hu) he⟩
       ·replace e5:=(decide_eq_false hl)▸e5
        have LA:=aH e5;clear e5;clear e e' e4;subst LA
        have AW:(vs.toArray.size !=us.toArray.size)=true:=by refine aa List.size_toArray (aa List.size_toArray (aa (Eq.symm r1.length) (aa (Eq.symm r2.length) ?_)));simpa using hl
        have rc:=RcAt.lists_lengths (A:=A) HS BU AW (uB hu)
        exact ⟨EqAt.of_refs ne rc,rc,RcNeAt.lists_lengths HS BU AW (uB hu)⟩
      |_=>exact zS e4
     |tup xs=>
      induction o2 with
      |tup ys=>
       refine R.rB g1 hx fun a1 k1 qv _ l1 qa=>mj qa fun vs ob1 n1 qe c1 d1 r1=>?_;clear qa;subst qv qe
       refine R.rB g2 hy fun a2 k2 qv _ l2 qa=>mj qa fun us Yp n2 qe c2 d2 r2=>?_;clear qa;subst qv qe
       have ne:a1≠a2:=R.apart (u:=[]) (u':=[]) q l1 l2
       have HS:IsTup s.heap a1 vs.toArray:=⟨ob1,(R.nw _ (cD (fz:=fz) l1 cg)).1,c1,n1,d1⟩
       have BU:IsTup s.heap a2 us.toArray:=⟨Yp,(R.nw _ (cD (fz:=fz) l2 cg)).1,c2,n2,d2⟩
       have e5:(Bool.rec none (rt (E5 G.P k σ.mem) xs ys) (Nat.beq xs.length ys.length):Option Bool)=some c:=e4
       replace e5:=(eT ..)▸e5
       by_cases hl:xs.length=ys.length
       ·replace e5:=(decide_eq_true hl)▸e5
        refine ay (kL e5 hl) fun ee h1 fQ=>?_;clear e e' e4;subst fQ
        have he:∀j (p1:j<vs.toArray.size) (p2:j<us.toArray.size),EqAt A.in1 s vs.toArray[j] us.toArray[j] (ee j):=by
         intro j p1 p2
         replace p1:=List.size_toArray▸p1;replace p1:=(Eq.symm r1.length)▸p1
         replace p2:=List.size_toArray▸p2;replace p2:=(Eq.symm r2.length)▸p2
         refine r1.qu (iV p1) fun z1 w1 w2=>?_
         refine r2.qu (iV p2) fun z2 w3 w4=>?_
         have k1:vs.toArray[j]=z1:=by simpa using (jN w1).2
         have k2:us.toArray[j]=z2:=by simpa using (jN w3).2
         refine aa k1 (aa k2 ?_)
         exact (ih _ _ _ _ _ hu1 w2 w4 (h1 j _ _ (iV p1) (iV p2))).1
        have AW:vs.toArray.size=us.toArray.size:=by exact aa List.size_toArray (aa List.size_toArray (aa (Eq.symm r1.length) (aa (Eq.symm r2.length) (aa hl rfl))))
        have hlen:xs.length=vs.toArray.size:=by exact aa List.size_toArray (aa r1.length rfl)
        have rc:=RcAt.tuples (A:=A) (iA HS) (iA BU) (uB hu) he
        have rn:=RcNeAt.tuples (A:=A) (iA HS) (iA BU) (uB hu) he
        rw [<-AW,Nat.min_self,beq_self_eq_true,Bool.and_true,<-hlen] at rc rn
        exact ⟨EqAt.of_refs ne rc,rc,rn⟩
       ·replace e5:=(decide_eq_false hl)▸e5;exact zS e5
      |_=>exact zS e4
     |_=>exact zS e4
   |_=>exact zS e'
  |_=>exact zS e'
end
section
theorem Bj(R:Rep G h₀ L fz s.heap m W σ)(hu:A.units+12+200<cLine)(dy:DR W ys kb)(dx:DR W xs ka):
  ∀{c:Bool},E4 (E5 G.P 12 σ.mem) xs ys=some c->KeqHits A s kb ka c:=by
 induction dx with
 |nil=>intro c e;have w6:=aH e;clear e;subst w6;exact .nil
 |cons hv _ ih=>
  rename_i x a v es kvs _
  intro c e
  have g:=dy.look x
  unfold E4 at e
  dsimp only at e
  generalize hl:bP (code x) ys=bZ;induction bZ with
  |none=>
   replace e:=hl▸e;replace g:=hl▸g
   have w5:=aH e;clear e;subst w5
   exact .miss g.none
  |some z=>
   replace e:=hl▸e;replace g:=hl▸g
   refine g.someE fun w g1 g2=>?_
   refine ab e fun c1 e1 e2=>?_;clear e
   refine ab e2 fun c2 e3 e4=>?_;clear e2
   have wZ:=aH e4;clear e4;subst wZ
   exact .hit g1 (vJ R 12 A _ _ _ _ _ hu hv g2 e1).1 (ih e3)
theorem pg(h:neg o=some c):∃d,o=some d/\c= !d:=by
 refine ab h fun d h1 h2=>?_;clear h
 have Dz:=aH h2;clear h2;subst Dz;exact ⟨d,h1,rfl⟩
theorem pZ(h:vP mem x=some o):∃i es,x= .o i/\mem.get i=some (.dict es)/\o= .dict es:=by
 induction x with
 |o i=>
  refine ab h fun o' h1 h2=>?_;clear h
  induction o' with
  |dict es=>have Dy:=aH h2;clear h2;subst Dy;exact ⟨i,es,rfl,h1,rfl⟩
  |_=>exact zS h2
 |_=>exact zS h
theorem Nz.M1(h:Nz G A₀ A base outer h₀ L env n):A.units+12+200<cLine/\A.in1.units+12+200<cLine/\A.units<cLine:=
 have u:A.units<=8000:=Nat.le_trans (Nat.le_add_right _ _) h.hu
 ⟨Nat.lt_of_le_of_lt (Nat.add_le_add_right u 212) (zd rfl),Nat.lt_of_le_of_lt (Nat.add_le_add_right u 213) (zd rfl),Nat.lt_of_le_of_lt u (zd rfl)⟩
theorem yH(x:Str)(t:Tok):∀{xs:List AV} {vs:List Value} {c:Bool},bE W xs vs->xo x xs=some c->(∀y,y∈vs->EqAt A s y (.str x t) (y.isStr x))/\vs.any (·.isStr x)=c
 | [],[],c,_,e=>by have LA:=aH e;clear e;subst LA;exact ⟨fun _ h=>(zM h),rfl⟩
 |a::r,v::vs,c,hr,e=>by
  induction a with
  |str y=>
   refine ab e fun z e1 e2=>?_;clear e
   have Lz:=aH e2;clear e2;subst Lz
   refine aU hr.1 fun t' hv=>?_
   obtain ⟨h1,h2⟩:=yH x t hr.2 e1
   refine ⟨fun w hw=>?_,?_⟩
   ·rcases gn hw with rfl | hw
    ·subst hv;exact EqAt.str_str y t' x t
    ·exact h1 w hw
   ·subst hv
    refine aa (List.any_cons ..) (aa (h2 ..) (aa (IT ..) ?_));rfl
  |_=>exact zS e
 | [],_::_,_,hr,_=>hr.elim
 |_::_,[],_,hr,_=>hr.elim
theorem qY(c:Nat):∀l:List Nat,pG c l=decide (c∈l)
 | []=>by simp [pG]
 |a::r=>by
  show (Bool.rec (pG c r) true (Nat.beq a c):Bool)=_
  refine aa (eT ..) (aa (qY c r ..) ?_)
  by_cases h:a=c
  ·subst h;simp
  ·have:¬ c=a:=fun e=>h e.symm
   simp [h,this]
theorem Jc{T:At}(ok:T.Ok G n b W)(R:T.Rep G s.heap m W σ)
  (hx:VR W x u) (hy:VR W y v) (e:inA G.P σ.mem x y=some c):
  ((∀tk,Q (.bool c) {s with toks:=tk})->wpAny (model G.prog G.w) T.A (compareOp .In u v) Q E s)/\((∀tk,Q (.bool !c) {s with toks:=tk})->wpAny (model G.prog G.w) T.A (compareOp .NotIn u v) Q E s):=by
 induction x with
 |str a=>
  refine VR.eB hx fun t=>?_;clear hx
  induction y with
  |str z=>
   refine VR.eB hy fun t'=>?_;clear hy
   have e':(match a.cps.toList with | [w]=>some (pG w z.cps.toList) | _=>none)=some c:=e
   split at e'
   ·rename_i w hw
    have ha:a=⟨#[w]⟩:=by
     cases a;simp only [Str.mk.injEq];exact Array.ext' hw
    subst ha
    replace e':=(qY ..)▸e'
    have Ly:=aH e';clear e';clear e;subst Ly
    refine ⟨fun q=>PySem.P.in_str ?_,fun q=>PySem.P.notIn_str ?_⟩
    ·refine aa (StrLaws.found_one ..) ?_;exact q _
    ·refine aa (StrLaws.found_one ..) ?_;exact q _
   ·exact zS e'
  |o i=>
   refine ab e fun o e1 e2=>?_;clear e
   induction o with
   |list xs=>
    refine R.cY e1 hy fun ad vs k _ _ r hl _=>?_;clear e1 hy
    refine aM (yH (A:=T.A.in1) (s:=s) a t r e2) fun h1 h2=>?_
    have he:∀y,y∈vs.toArray->EqAt T.A.in1 s y (.str a t) (y.isStr a):=fun y hy=>h1 y (by simpa using hy)
    refine ⟨fun q=>in_listAt (fun y=>y.isStr a) hl he ?_,fun q=>notIn_listAt (fun y=>y.isStr a) hl he ?_⟩
    ·refine aa List.any_toArray (aa h2 ?_);exact q _
    ·refine aa List.any_toArray (aa h2 ?_);exact q _
   |dict es=>
    have Lx:=aH e2;clear e2;subst Lx
    refine R.dP e1 hy fun ad ob kvs _ _ hm hd r lo=>?_;clear e1 hy
    have g:=r.look a
    have hs:(valueAt kvs a).isSome=(bP (code a) es).isSome:=by
     generalize hl:bP (code a) es=ir;induction ir with
     |none=>replace g:=hl▸g;refine aa g.none ?_;rfl
     |some z=>replace g:=hl▸g;refine g.someE fun w g1 _=>?_;refine aa g1 ?_;rfl
    exact ⟨fun q=>kda_in R.nw hm hd lo (strKind_is _ _ _ _) _ hs (q _),fun q=>kdg_notin R.nw hm hd lo (strKind_is _ _ _ _) _ hs (q _)⟩
   |pmap kn j=>
    refine ab e2 fun ov e3 e4=>?_;clear e2
    have Lw:=aH e4;clear e4;subst Lw
    refine R.p9 e1 hy fun ad l _ l2 qa=>jB qa fun ob kvs qe hd lo _ g=>?_;clear qa;subst qe
    have hm:=cD (fz:=T.fz) l2 cg
    have g':=g a _ e3
    have hs:(valueAt kvs a).isSome=ov.isSome:=by
     induction ov with
     |none=>refine aa g'.none ?_;rfl
     |some z=>refine g'.someE fun w g1 _=>?_;refine aa g1 ?_;rfl
    exact ⟨fun q=>kda_in R.nw hm hd lo (strKind_is _ _ _ _) _ hs (q _),fun q=>kdg_notin R.nw hm hd lo (strKind_is _ _ _ _) _ hs (q _)⟩
   |_=>exact zS e2
  |d i=>
   refine ab e fun r e1 e2=>?_;clear e
   have Lv:=aH e2;clear e2;subst Lv
   refine wg (R.dat.dg i a _ e1 v hy) fun ad ob kvs eD hf hd lo g=>?_;clear hy;subst eD
   have hm:=fT (fz:=T.fz) hf
   have hs:(valueAt kvs a).isSome=r.isSome:=by
    induction r with
    |none=>refine aa g.none ?_;rfl
    |some j=>refine g.someE fun w g1 _=>?_;refine aa g1 ?_;rfl
   exact ⟨fun q=>kda_in R.nw hm hd lo (strKind_is _ _ _ _) _ hs (q _),fun q=>kdg_notin R.nw hm hd lo (strKind_is _ _ _ _) _ hs (q _)⟩
  |_=>exact zS e
 |_=>exact zS e
theorem yF{T:At}(R:T.Rep G h m W σ)(hx:VR W x u)(e:yV G.P x=some c):(c=true->u= .none)/\(c=false->u≠ .none):=by
 induction x with
 |none=>subst hx;have X1:=aH e;clear e;subst X1;exact ⟨fun _=>rfl,fun h=>zF h⟩
 |d i=>
  have tg:=R.dat.tag i u hx
  have e':(match bN G.P i with | .any=>none | .nG=>none | .none=>some true | _=>some false)=some c:=e
  generalize ht:bN G.P i=ny;induction ny with
  |any=>replace e':=ht▸e';exact zS e'
  |nG=>replace e':=ht▸e';exact zS e'
  |nn=>replace e':=ht▸e';replace tg:=ht▸tg;have X0:=aH e';clear e';clear e;subst X0;exact ⟨fun h=>(zT h),fun _=>tg⟩
  |none=>replace e':=ht▸e';replace tg:=ht▸tg;have XZ:=aH e';clear e';clear e;subst XZ;exact ⟨fun _=>tg,fun h=>zF h⟩
  |str x=>replace e':=ht▸e';replace tg:=ht▸tg;have Lu:=aH e';clear e';clear e;subst Lu;refine iJ tg fun z w fG _=>?_;clear tg;clear hx;subst fG;exact ⟨fun h=>(zT h),fun _ h=>nomatch h⟩
  |dict b=>replace e':=ht▸e';replace tg:=ht▸tg;have XY:=aH e';clear e';clear e;subst XY;refine NH tg fun z w k gF _=>?_;clear tg;clear hx;subst gF;exact ⟨fun h=>(zT h),fun _ h=>nomatch h⟩
  |tuple=>replace e':=ht▸e';replace tg:=ht▸tg;have Ls:=aH e';clear e';clear e;subst Ls;refine IE tg fun z w k l gg _=>?_;clear tg;clear hx;subst gg;exact ⟨fun h=>(zT h),fun _ h=>nomatch h⟩
  |int=>replace e':=ht▸e';replace tg:=ht▸tg;have Lr:=aH e';clear e';clear e;subst Lr;refine BK tg fun z w gR=>?_;clear tg;clear hx;subst gR;exact ⟨fun h=>(zT h),fun _ h=>nomatch h⟩
 |int i=>refine VR.mM hx fun t=>?_;clear hx;have Lq:=aH e;clear e;subst Lq;exact ⟨fun h=>(zT h),fun _ h=>nomatch h⟩
 |str i=>refine VR.eB hx fun t=>?_;clear hx;have Lp:=aH e;clear e;subst Lp;exact ⟨fun h=>(zT h),fun _ h=>nomatch h⟩
 |o i=>refine VR.oM hx fun t _=>?_;clear hx;have Lo:=aH e;clear e;subst Lo;exact ⟨fun h=>(zT h),fun _ h=>nomatch h⟩
 |_=>subst hx;have Ln:=aH e;clear e;subst Ln;exact ⟨fun h=>(zT h),fun _ h=>nomatch h⟩
theorem Fq{T:At}(ok:T.Ok G n b W)(R:T.Rep G s.heap m W σ)
  (hx:VR W x u) (hy:VR W y v) (e:VH G.P σ.mem op x y=some c) (q:∀tk,Q (.bool c) {s with toks:=tk}):wpAny (model G.prog G.w) T.A (compareOp op u v) Q E s:=by
 refine fK ok.gL.M1 fun room O5 IY=>?_
 induction op with
 |Eq=>
  have e':E2 G.P σ.mem x y=some c:=e
  unfold E2 at e'
  generalize hd:vP σ.mem x=rS;induction rS with
  |none=>
   replace e':=hd▸e'
   exact (vJ R 12 T.A x y u v c room hx hy e').2.1 G.prog G.w E Q (q _)
  |some o1=>
   replace e':=hd▸e'
   generalize h1:vP σ.mem y=tR;induction tR with
   |none=>
    replace e':=h1▸e'
    exact (vJ R 12 T.A x y u v c room hx hy e').2.1 G.prog G.w E Q (q _)
   |some o2=>
   replace e':=h1▸e'
   have h2:=e'
   refine dM (pZ hd) fun i xs cZ g1 dq=>?_;clear hd;subst cZ dq
   refine dM (pZ h1) fun j ys dp g2 fQ=>?_;clear h1;subst dp fQ
   refine R.dP g1 hx fun ad ob kvs _ _ hm W7 r1 lo1=>?_;clear g1 hx
   refine R.dP g2 hy fun Wf Yp HM _ _ N0 hd2 r2 WX=>?_;clear g2 hy
   have h3:(Bool.rec (some false) (E4 (E5 G.P 12 σ.mem) xs ys) (Nat.beq xs.length ys.length):Option Bool)=some c:=h2
   replace h3:=(eT ..)▸h3
   by_cases hl:xs.length=ys.length
   ·replace h3:=(decide_eq_true hl)▸h3
    refine keq_pairs R.nw hm N0 W7 hd2 lo1 WX (by exact aa (Eq.symm r1.length) (aa (Eq.symm r2.length) (aa hl rfl))) IY (Bj R O5 r2 r1 h3) (q _)
   ·replace h3:=(decide_eq_false hl)▸h3
    have Lm:=aH h3;clear h3;clear e e' h2;subst Lm
    have hl':¬ kvs.length=HM.length:=by refine aa (Eq.symm r1.length) (aa (Eq.symm r2.length) ?_);exact hl
    refine keq_eq (r:=true) lo1 WX (kda_dict R.nw hm W7) (kda_dict R.nw N0 hd2) IY (fun h=>absurd h hl') ?_
    have:(kvs.length==HM.length)=false:=by simpa using hl'
    refine aa this ?_;exact q _
 |NotEq=>
  refine ay (pg e) fun d h1 eW=>?_;clear e;subst eW
  exact (vJ R 12 T.A x y u v d room hx hy h1).2.2 G.prog G.w E Q (q _)
 |In=>exact (Jc ok R hx hy e).1 q
 |NotIn=>
  refine ay (pg e) fun d h1 gh=>?_;clear e;subst gh
  exact (Jc ok R hx hy h1).2 q
 |Is=>
  induction y with
  |none=>
   subst hy
   refine aM (yF R hx e) fun h1 h2=>?_
   induction c with
   |true=>refine aa (h1 rfl) ?_;exact is_none_none (q _)
   |false=>exact is_none_ne (h2 rfl) (q _)
  |_=>exact zS e
 |IsNot=>
  refine ay (pg e) fun d h1 jm=>?_;subst jm
  induction y with
  |none=>
   subst hy
   refine aM (yF R hx h1) fun h2 h3=>?_
   induction d with
   |true=>refine aa (h2 rfl) ?_;exact isnot_none_none (q _)
   |false=>exact isnot_none_ne (h3 rfl) (q _)
  |_=>exact zS h1
 |Lt=>
  induction x with
  |int i=>
   induction y with
   |int j=>refine VR.mM hx fun t=>?_;clear hx;refine VR.mM hy fun t'=>?_;clear hy;have Ll:=aH e;clear e;subst Ll;exact wpAny_lt_int (q _)
   |_=>exact zS e
  |_=>exact zS e
 |Gt=>
  induction x with
  |int i=>
   induction y with
   |int j=>refine VR.mM hx fun t=>?_;clear hx;refine VR.mM hy fun t'=>?_;clear hy;have Lk:=aH e;clear e;subst Lk;exact PySem.P.gt_int (q _)
   |_=>cases (show (none:Option Bool)=some c from e)
  |_=>induction y<;>exact zS e
 |_=>exact zS e
theorem uZ(h:bT r=false):behindInMarks op r=false:=by induction r using PySem.Expr.casesOn<;>first | rfl | exact zF h
theorem KI(hr:bT r=false)(hf:SE G n b f l)(hg:SE G n b g r):SE G n b (Ju G.P op f g) (.Compare l [op] [r] pos):=by
 intro T W m σ s a aF Q E ok R ev P
 refine af ev fun c σ₀ e0 e1=>?_;clear ev
 refine eO e1 fun mC sk=>?_;clear e1;subst mC sk
 refine af e0 fun x aE e1 e2=>?_;clear e0
 refine af e2 fun y aY e3 e4=>?_;clear e2
 refine b9 e4 fun e5 oK=>?_;clear e4;subst oK
 refine wpAny_Compare1 (hf T W m σ s x _ _ E ok R e1 fun W₁ aq ar bp ag ak aK=>?_) (uZ hr)
 refine hg T W₁ m _ _ y _ _ E (ok.mono ag) ak e3 fun ae aJ aG ef ax az aV=>?_
 exact Fq (s:={s with heap:=aJ,toks:=aG}) (ok.mono (ag.trans ax)) az (aK.mono ax) aV e5 fun tk=>P ae aJ tk _ (ag.trans ax) az rfl
theorem Kx{op:CmpOp}(hr:bT r=false)(hf:SE G n b f l)(hg:SE G n b g r):zQ G n b (Cn G.P op f g) (.Compare l [op] [r] pos):=by
 intro T W m σ s a aF Q E ok R ev P
 refine af ev fun x aE e1 e2=>?_;clear ev
 refine af e2 fun y aY e3 e4=>?_;clear e2
 refine b9 e4 fun e5 oH=>?_;clear e4;subst oH
 refine wpAny_isTrue_Compare1 (hf T W m σ s x _ _ E ok R e1 fun W₁ aq ar bp ag ak aK=>?_) (uZ hr)
 refine hg T W₁ m _ _ y _ _ E (ok.mono ag) ak e3 fun ae aJ aG ef ax az aV=>?_
 exact Fq (s:={s with heap:=aJ,toks:=aG}) (ok.mono (ag.trans ax)) az (aK.mono ax) aV e5 fun tk=>wpAny_truthy_bool (P ae aJ tk _ (ag.trans ax) az rfl)
end
end
section
open PySem PySem.W PySem.Calls PyProof.Rows PyProof.V PySem.Spec
theorem Hm(hy:y.length<=1000000)
  (h:∀t' k,Q (.str (S "_result:" ++ y) t') {s with toks:=k}):wpAny (model prog w) A (binaryOp .Mod (.str (S "_result:%s") t) (.str y u)) Q E s:=by
 have h':∀t' k,Q (.str ((fun y=>Str.ofString "_result:" ++ y) y) t') {s with toks:=k}:=h
 refine' KPc.mod_str (X:=Str.ofString "_result:%s") (T:=fun y=>Str.ofString "_result:" ++ y) ?kpcF hy ?kpcm h'
 case kpcF=>kpc_eq
 case kpcm=>k_dflt kpc_run_s
theorem qH(a b:Str):om a.cps.toList b.cps.toList=a++b:=by
 show (⟨(a.cps.toList++b.cps.toList).toArray⟩:Str)=⟨a.cps++b.cps⟩
 simp
section
theorem HQ(io:dn G)(R:Rep G h₀ L fz h m W σ)(hy:G.I σ.nd=some y)(mk:NC G.P σ.nd)(t:Tok):
  W.le ⟨W.bg,W.ls,W.fx,W.gam ++ [.int y t],W.eta⟩/\Rep G h₀ L fz h m ⟨W.bg,W.ls,W.fx,W.gam ++ [.int y t],W.eta⟩ ⟨σ.loc,σ.mem,σ.nd+1⟩/\VR ⟨W.bg,W.ls,W.fx,W.gam ++ [.int y t],W.eta⟩ (.d σ.nd) (.int y t):=by
 have le:W.le ⟨W.bg,W.ls,W.fx,W.gam ++ [.int y t],W.eta⟩:=⟨List.prefix_refl _,fun _ h=>h,List.prefix_append _ _,rfl⟩
 have at_:∀(i:Nat) v,(W.gam ++ [Value.int y t])[i]?=some v->(W.gam[i]?=some v)\/(i=σ.nd/\v= .int y t):=by
  intro i v e
  by_cases hi:i<W.gam.length
  ·replace e:=(List.getElem?_append_left hi)▸e;exact .inl e
  ·replace e:=(List.getElem?_append_right (Nat.not_lt.mp hi))▸e
   have hz:i-W.gam.length=0:=by
    rcases Nat.eq_zero_or_pos (i-W.gam.length) with q | q
    ·exact q
    ·rw [List.getElem?_eq_none (by simp;omega)] at e;exact zS e
   replace e:=hz▸e
   simp only [List.getElem?_cons_zero,Option.some.injEq] at e
   exact .inr ⟨by refine aa (Eq.symm R.n3) ?_;omega,e.symm⟩
 refine ⟨le,⟨R.fr,R.nw,R.nd,R.mem,R.n1,R.n2,by show (W.gam ++ [_]).length=σ.nd+1;refine aa List.length_append (aa R.n3 ?_);rfl,fun i o e=>let ⟨a,l,e1,e2,e3⟩:=R.ob i o e;⟨a,l,e1,e2,e3.mono le⟩,R.loc.mono le,?_⟩,?_⟩
 ·refine ⟨fun i v e=>?_,fun i j u v c e1 e2 e3=>?_,fun i v x e1 e2=>?_,fun i v e=>?_,fun i x u c t' e1 e2=>?_,fun i x r e1 v e2=>?_,fun i z j e1 v e2=>?_,fun c i x b hk e1 u v BW e2 sub is=>?_⟩
  ·rcases at_ i v e with q | ⟨rfl,rfl⟩
   ·exact R.dat.tag i v q
   ·rcases io.tag _ y hy mk with q | q
    ·refine aa q ?_;trivial
    ·refine aa q ?_;exact ⟨y,t,rfl⟩
  ·rcases at_ i u e1 with q | ⟨rfl,rfl⟩
   ·rcases at_ j v e2 with q' | ⟨rfl,rfl⟩
    ·exact R.dat.eq i j u v c q q' e3
    ·replace e3:=((io.eq _ y hy mk i).2)▸e3;exact zS e3
   ·replace e3:=((io.eq _ y hy mk j).1)▸e3;exact zS e3
  ·rcases at_ i v e1 with q | ⟨rfl,rfl⟩
   ·exact R.dat.int i v x q e2
   ·replace e2:=hy▸e2;have eX:=aH e2;clear e2;subst eX;exact ⟨t,rfl⟩
  ·rcases at_ i v e with q | ⟨rfl,rfl⟩
   ·exact R.dat.hd i v q
   ·rfl
  ·rcases at_ i u e1 with q | ⟨rfl,rfl⟩
   ·exact R.dat.jO i x u c t' q e2
   ·replace e2:=((io.no _ y hy mk _).1)▸e2;exact zS e2
  ·rcases at_ i v e2 with q | ⟨rfl,rfl⟩
   ·refine wg (R.dat.dg i x r e1 v q) fun a ob kvs h1 h2 h3 h4 h5=>?_
    refine ⟨a,ob,kvs,h1,h2,h3,h4,?_⟩
    induction r with
    |none=>refine aa h5.none ?_;trivial
    |some j=>refine h5.someE fun u g1 g2=>?_;refine aa g1 ?_;exact ai (List.prefix_append _ _) g2
   ·replace e1:=((io.no _ y hy mk _).2.1)▸e1;exact zS e1
  ·rcases at_ i v e2 with q | ⟨rfl,rfl⟩
   ·refine FV (R.dat.ds i z j e1 v q) fun a ob vs k u h1 h2 h3 h4 h5 h6 h7=>?_
    exact ⟨a,ob,vs,k,u,h1,h2,h3,h4,h5,h6,ai (List.prefix_append _ _) h7⟩
   ·replace e1:=((io.no _ y hy mk _).2.2)▸e1;exact zS e1
  ·have W4:=io.kn _ y hy mk
   rcases at_ i u e2 with q | ⟨rfl,rfl⟩
   ·refine R.dat.pT c i x b hk e1 u v BW q sub (is.mono (fun _ h=>h) fun d v ⟨n,h1,h2,h3⟩=>⟨n,h1,h2,?_⟩)
    rcases at_ n v h3 with q' | ⟨rfl,rfl⟩
    ·exact q'
    ·omega
   ·omega
 ·show (W.gam ++ [Value.int y t])[σ.nd]?=_
  refine aa (Eq.symm R.n3) ?_;simp
theorem xb(e:eU op x k=some y)(hk:k.natAbs<2 ^ 20)
  (q:Q (.int y s.toks) {s with toks:=s.toks+1}):wpAny (model prog w) A (binaryOp op (.int x t) (.int k u)) Q E s:=by
 induction op with
 |Mod=>
  have e':(if 0<k then some (x%k) else none)=some y:=e
  split at e'
  ·rename_i hp
   have fO:=aH e';clear e';clear e;subst fO
   refine mod_int' (by omega) ?_
   refine aa (Int.fmod_eq_emod_of_nonneg x (by omega)) ?_;exact q
  ·exact zS e'
 |Add=>have eW:=aH e;clear e;subst eW;exact add_int q
 |FloorDiv=>
  have e':(if 0<k then some (x/k) else none)=some y:=e
  split at e'
  ·rename_i hp
   have gh:=aH e';clear e';clear e;subst gh
   refine floordiv_int (by omega) ?_ (.inl (PyProof.noPylong_small (Nat.lt_of_lt_of_le hk (zd rfl))))
   refine aa (Int.fdiv_eq_ediv_of_nonneg x (by omega)) ?_;exact q
  ·exact zS e'
 |RShift=>
  have e':(if 0<=k then some (mz x k) else none)=some y:=e
  split at e'
  ·have jm:=aH e';clear e';clear e;subst jm
   refine AutoIntOpsIf.rshift ?_
   refine aa (if_neg (by omega)) ?_
   unfold mz at q
   by_cases h:k >= ((Builtin.Int.intBits x:Nat):Int)
   ·rw [if_pos h] at q ⊢;exact q
   ·rw [if_neg h] at q ⊢;exact q
  ·exact zS e'
 |_=>exact zS e
theorem t9(h:small x=true):x.natAbs<=1000:=zd h
theorem Pj(e:LP op x k=some y):eU op x k=some y/\x.natAbs<=1000/\k.natAbs<=1000:=by
 have go:∀o:Option Int,(Bool.rec none o (small x&&small k):Option Int)=some y->o=some y/\x.natAbs<=1000/\k.natAbs<=1000:=fun o h=>by
  generalize hs:(small x&&small k)=bZ;induction bZ with
  |false=>replace h:=hs▸h;exact zS h
  |true=>
   replace h:=hs▸h
   replace hs:=(Bool.and_eq_true ..)▸hs
   exact ⟨h,t9 hs.1,t9 hs.2⟩
 induction op<;>first | exact go _ e | exact zS e
theorem Im(R:T.Rep G s.heap m W σ)
  (hx:VR W (.int x) u) (hy:VR W (.int y) v) (e:Nn G.P σ.mem σ.nd op (.int x) (.int y)=some (a,mem',AB)) (P:gV G T W m ⟨σ.loc,mem',AB⟩ (fun W v=>VR W a v) Q s):wpAny (model G.prog G.w) T.A (binaryOp op u v) Q E s:=by
 refine VR.mM hx fun t=>?_;clear hx
 refine VR.mM hy fun t'=>?_;clear hy
 refine ab (show ob (LP op x y) (fun y=>some (AV.int y,σ.mem,σ.nd))=some _ from e) fun y e1 e2=>?_
 cases e2
 refine fK (Pj e1) fun e3 b1 b2=>?_
 exact xb e3 (by omega) (P W s.heap (s.toks+1) _ (.refl _) R ⟨_,rfl⟩)
theorem DN(io:dn G)(R:T.Rep G s.heap m W σ)(hr:r= .int z\/∃j,r= .d j/\G.I j=some z)(mk:∀j,r= .d j->NC G.P j)
  (e2:DO σ.mem σ.nd r=some (a,mem',AB)) (P:gV G T W m ⟨σ.loc,mem',AB⟩ (fun W v=>VR W a v) Q s):Q (.int z s.toks) {s with toks:=s.toks+1}:=by
 rcases hr with rfl | ⟨j,rfl,hj⟩
 ·cases e2;exact P W s.heap (s.toks+1) _ (.refl _) R ⟨_,rfl⟩
 ·have e3:(Bool.rec none (some (AV.d j,σ.mem,σ.nd+1)) (Nat.beq j σ.nd):Option (AV×Mem×Nat))=some (a,mem',AB):=e2
  replace e3:=(eT ..)▸e3
  by_cases hq:j=σ.nd
  ·replace e3:=(decide_eq_true hq)▸e3
   cases e3
   subst hq
   refine fK (HQ io R hj (mk _ rfl) s.toks) fun le R' r'=>?_
   exact P _ s.heap (s.toks+1) _ le R' r'
  ·replace e3:=(decide_eq_false hq)▸e3;exact zS e3
set_option maxHeartbeats 800000 in
theorem Nm(io:dn G)(R:T.Rep G s.heap m W σ)
  (hx:VR W x u) (hy:VR W y v) (e:Nn G.P σ.mem σ.nd op x y=some (a,mem',AB)) (P:gV G T W m ⟨σ.loc,mem',AB⟩ (fun W v=>VR W a v) Q s):wpAny (model G.prog G.w) T.A (binaryOp op u v) Q E s:=by
 induction x with
 |str f=>
  refine VR.eB hx fun t=>?_;clear hx
  induction y with
  |str z=>
   refine VR.eB hy fun t'=>?_;clear hy
   induction op with
   |Mod=>
    have e':(Bool.rec none (short z.cps.toList (some (AV.str (om Hv z.cps.toList),σ.mem,σ.nd))) (Nat.beq (code f) MW):Option (AV×Mem×Nat))=some (a,mem',AB):=e
    replace e':=(eT ..)▸e'
    by_cases hf:code f=MW
    ·replace e':=(decide_eq_true hf)▸e'
     refine au e' fun hs e2=>?_;clear e'
     cases e2
     have:f=S "_result:%s" :=code_inj hf
     subst this
     refine Hm (by show z.cps.size<=1000000;have:z.cps.toList.length=z.cps.size:=(by simp);omega) fun Xy k=>P W s.heap k _ (.refl _) R ⟨Xy,?_⟩
     exact aa (show Hv=(S "_result:").cps.toList from rfl) (aa (qH ..) rfl)
    ·replace e':=(decide_eq_false hf)▸e';exact zS e'
   |Add=>
    refine au (l:=f.cps.toList) e fun h1 e1=>?_;clear e
    refine au (l:=z.cps.toList) e1 fun h2 e2=>?_;clear e1
    cases e2
    refine PyProof.Rows.add_str (fun Xy k=>P W s.heap k _ (.refl _) R ⟨Xy,?_⟩) ?_
    ·exact aa (qH ..) rfl
    ·have q1:f.cps.toList.length=f.length:=by show _=f.cps.size;simp
     have q2:z.cps.toList.length=z.length:=by show _=z.cps.size;simp
     refine aa sizeLine_eq ?_;omega
   |_=>exact zS e
  |_=>exact zS e
 |o i=>
  induction y with
  |o j=>
   induction op with
   |Add=>
    refine ab e fun o1 g1 e1=>?_;clear e
    refine ab e1 fun o2 g2 e2=>?_;clear e1
    induction o1 with
    |list xs=>
     induction o2 with
     |list ys=>
      refine au (l:=xs) e2 fun h1 e3=>?_;clear e2
      refine au (l:=ys) e3 fun h2 e4=>?_;clear e3
      cases e4
      refine R.cY g1 hx fun a1 vs n1 _ l1 r1 HS _=>?_;clear g1 hx
      refine R.cY g2 hy fun a2 us n2 _ l2 r2 BU _=>?_;clear g2 hy
      refine add_lists R.fr R.nw HS BU (fun h' F' N'=>?_) (by refine aa (Eq.symm r1.length) (aa (Eq.symm r2.length) (aa sizeLine_eq ?_));omega)
      refine P _ h' s.toks _ (W.aS s.heap.objs.size _) (R.push (l:=[_]) F' N' (fun p hp q hq=>by refine aa (dU hq) ?_;exact Heap.lt_size (R.nw p hp).1) (by simp) ⟨vs++us,_,rfl,(r1.append r2).mono (W.aS _ _)⟩) (R.eE _ _)
     |_=>exact zS e2
    |_=>exact zS e2
   |_=>exact zS e
  |_=>induction op<;>exact zS e
 |d i=>
  induction y with
  |int k=>
   refine VR.mM hy fun t'=>?_;clear hy
   refine ab (o:=ql op i k σ.nd G.P.ops) e fun r e1 e2=>?_;clear e
   refine mX (io.op op i k σ.nd r e1) fun x z hi ho b2 hr=>?_
   refine aU (R.dat.int i u x hx hi) fun t gg=>?_;clear hx;subst gg
   exact xb ho b2 (DN io R hr (fun j hj=> .inl ⟨_,_,_,_,hj▸e1⟩) e2 P)
  |d k=>
   refine ab (o:=kc op i k σ.nd G.P.eu) e fun r e1 e2=>?_;clear e
   refine wg (io.op2 op i k σ.nd r e1) fun x x' z hi hi' ho b2 hr=>?_
   refine aU (R.dat.int i u x hx hi) fun t gR=>?_;clear hx;subst gR
   refine aU (R.dat.int k v x' hy hi') fun t' cW=>?_;clear hy;subst cW
   exact xb ho b2 (DN io R hr (fun j hj=> .inr ⟨_,_,_,_,hj▸e1⟩) e2 P)
  |_=>exact zS e
 |int x=>
  induction y with
  |int k=>exact Im R hx hy e P
  |_=>exact zS e
 |_=>induction y<;>exact zS e
theorem KJ(io:dn G)(hf:SE G n b f l)(hg:SE G n b g r):SE G n b (Jv G.P op f g) (.BinOp l op r pos):=by
 intro T W m σ s a aF Q E ok R ev P
 refine af ev fun x aE e1 e2=>?_;clear ev
 refine af e2 fun y aY e3 e4=>?_;clear e2
 refine ab e4 fun z e5 e6=>?_;clear e4
 refine eO e6 fun eY dQ=>?_;clear e6;subst eY dQ
 refine wpAny_BinOp (hf T W m σ s x _ _ E ok R e1 fun W₁ aq ar bp ag ak aK=>?_)
 refine hg T W₁ m _ _ y _ _ E (ok.mono ag) ak e3 fun ae aJ aG ef ax az aV=>?_
 exact Nm io (s:={s with heap:=aJ,toks:=aG}) az (aK.mono ax) aV e5 fun bu bq aQ kY bj cc eC=>P bu bq aQ kY ((ag.trans ax).trans bj) cc eC
theorem uW(h:nameOf e=some x):∃p,e= .Name x p:=by
 induction e using PySem.Expr.casesOn with
 |Name y p=>have mD:=aH h;clear h;subst mD;exact ⟨p,rfl⟩
 |_=>exact zS h
theorem G2(he:nameOf e=some x)(hf:SE G n b f e):SE G n b (EZ f) (.Subscript e (.Slice none none none p) pos):=by
 intro T W m σ s a aF Q E ok R ev P
 refine aU (uW he) fun px cZ=>?_;clear he;subst cZ
 refine af ev fun y aE e1 e2=>?_;clear ev
 refine wpAny_Subscript_list_slice (hf T W m σ s y _ _ E ok R e1 fun W₁ aq ar bp ag ak aK=>?_)
 have ex:∀{Q':Value->Shared->Prop} {s':Shared},Q' .none s'->wpAny (model G.prog G.w) T.A (evalPart none T.env) Q' E s':=fun q=>by refine aa (evalPart_none ..) ?_;exact wpAny_pure q
 refine ex (ex ?_)
 induction y with
 |o i=>
  refine ab e2 fun o g1 g2=>?_;clear e2
  induction o with
  |list xs=>
   refine au g2 fun hs g3=>?_;clear g2
   refine dS g3 fun dq dp=>?_;clear g3;subst dq dp
   refine ak.cY g1 aK fun ad vs k _ l1 r hl _=>?_;clear g1 aK
   refine ⟨ad,vs.toArray,none,none,rfl,hl,by refine aa List.size_toArray (aa (Eq.symm r.length) (aa sizeLine_eq ?_));omega, .none, .none,?_⟩
   refine aa (slicePick_all ..) ?_
   have N1:=(ak.nw.push ak.fr {cls:= .type "slice",data:= .fields #[.none, .none, .none]} rfl)
   have F1:=ak.fr.push {cls:= .type "slice",data:= .fields #[.none, .none, .none]}
   have N2:=News.push F1 N1 {cls:= .type "list",data:= .seq vs.toArray}
   replace N2:=(Heap.size_push ..)▸N2
   refine P _ _ ar _ (ag.trans (W₁.aS (aq.objs.size+1) [(aq.objs.size+1,listOf vs.toArray 0)])) (ak.push (l:=[(aq.objs.size+1,listOf vs.toArray 0)]) (F1.push _) (fun p hp=>?_) (fun p hp q hq=>?_) (by simp) ⟨vs,0,rfl,r.mono (W₁.aS _ _)⟩) (ak.eE _ _)
   ·rcases gn hp with rfl | hp
    ·exact N2 _ cg
    ·exact N2 p (fw _ (fw _ hp))
   ·refine aa (dU hq) ?_;exact Nat.lt_succ_of_lt (Heap.lt_size (ak.nw p hp).1)
  |_=>exact zS g2
 |_=>exact zS e2
end
noncomputable def Nw(W:Wd):List AV->List (Value×Value)->Prop
 | [],[]=>True
 |a::b::as,v::vs=>VR W a v.1/\VR W b v.2/\Nw W as vs
 |_,_=>False
theorem Nw.mono(l:W.le W'):∀{as:List AV} {vs:List (Value×Value)},Nw W as vs->Nw W' as vs
 | [],[],_=>trivial
 |_::_::_,_::_,h=>⟨h.1.mono l,h.2.1.mono l,Nw.mono l h.2.2⟩
 | [],_::_,h=>h.elim
 | [_],[],h=>h.elim
 | [_],_::_,h=>h.elim
 |_::_::_,[],h=>h.elim
theorem DR.snoc(h:DR W es kvs)(x:Str)(hv:VR W a v):DR W (es ++ [(code x,x,a)]) (kvs ++ [(x,v)]):=by
 induction h with
 |nil=>exact .cons hv .nil
 |cons hw _ ih=>exact .cons hw ih
theorem DR.Ur(h:DR W es kvs)(e:bP (code x) es=none):x ∉ kvs.map (·.1):=by
 induction h with
 |nil=>simp
 |cons hw _ ih=>
  rename_i y a v es kvs _
  replace e:=(df ..)▸e
  by_cases q:code y=code x
  ·replace e:=(if_pos q)▸e;exact zN e
  ·replace e:=(if_neg q)▸e
   rw [List.map_cons,List.mem_cons,not_or]
   exact ⟨fun z=>q (by exact aa z rfl),ih e⟩
theorem rm:∀{as:List AV} {vs:List (Value×Value)} {es rq:bk} {kvs:List (Str×Value)},Nw W as vs->DR W es kvs->(kvs.map (·.1)).Nodup->za as es=some rq->
  allStrKeys vs=true/\DR W rq (kvs++strPairs vs)/\((kvs++strPairs vs).map (·.1)).Nodup
 | [],[],es,rq,kvs,_,d,nd,e=>by
  have gR:=aH e;clear e;subst gR
  exact ⟨rfl,by simpa [strPairs] using d,by simpa [strPairs] using nd⟩
 |a::b::as,v::vs,es,rq,kvs,h,d,nd,e=>by
  obtain ⟨v1,v2⟩:=v
  induction a with
  |str k=>
   have e':(Option.rec (za as (es ++ [(code k,k,b)])) (fun _=>none) (bP (code k) es):Option bk)=some rq:=e
   generalize hl:bP (code k) es=bZ;induction bZ with
   |some z=>replace e':=hl▸e';exact zS e'
   |none=>
    replace e':=hl▸e'
    refine aU h.1 fun t ht=>?_
    have BR:v1= .str k t:=ht
    subst BR
    have AB:((kvs ++ [(k,v2)]).map (·.1)).Nodup:=by
     rw [List.map_append,List.nodup_append]
     refine ⟨nd,by simp,fun x hx y hy ez=>?_⟩
     have:y=k:=by simpa using hy
     subst this;subst ez
     exact d.Ur hl hx
    refine fK (rm h.2.2 (d.snoc k h.2.1) AB e') fun g1 g2 g3=>?_
    refine ⟨g1,?_,?_⟩
    ·have:kvs++strPairs ((Value.str k t,v2)::vs)=kvs ++ [(k,v2)]++strPairs vs:=by simp [strPairs]
     refine aa this ?_;exact g2
    ·have:kvs++strPairs ((Value.str k t,v2)::vs)=kvs ++ [(k,v2)]++strPairs vs:=by simp [strPairs]
     refine aa this ?_;exact g3
  |_=>exact zS e
 | [],_::_,_,_,_,h,_,_,_=>h.elim
 | [_],[],_,_,_,h,_,_,_=>h.elim
 | [_],_::_,_,_,_,h,_,_,_=>h.elim
 |_::_::_,[],_,_,_,h,_,_,_=>h.elim
noncomputable def Oj(G:Gx)(n:Nat)(b:gf)(f:yf)(ks:List (Option Expr))(vs:List Expr):Prop:=∀(T:At) (W:Wd) (m:Str->Option Value) (σ:St) (s:Shared) (as:List AV) (aF:St) (pos:Pos) (Q:List (Value×Value)->Shared->Prop) (E:Value->Shared->Prop),
 T.Ok G n b W->T.Rep G s.heap m W σ->f T.cx σ=some (as,aF)->gV G T W m aF (fun W ps=>Nw W as ps) Q s->wpAny (model G.prog G.w) T.A (evalPairs (pairTrees ks vs T.env pos)) Q E s
noncomputable def At.aD(T:At)(l:List (Addr×Obj)):At:={T with fz:=l++T.fz}
theorem At.Ok.aD{T:At}(h:T.Ok G n b W)(l:List (Addr×Obj)):(T.aD l).Ok G n b W:=⟨h.gL,h.env.mono (.refl _) fun _ q=>List.mem_append_right _ q⟩
section
theorem GS:Oj G n b sW [] []:=by
 intro T W m σ s as aF pos Q E ok R ev P
 refine eO ev fun b7 cw=>?_;clear ev;subst b7 cw
 exact pairTrees_nil_walk (P W s.heap s.toks _ (.refl _) R trivial)
theorem CN(hf:SE G n b f k)(hg:SE G n b g v)(hr:Oj G n b r ks vs):Oj G n b (yA f g r) (some k::ks) (v::vs):=by
 intro T W m σ s as aF pos Q E ok R ev P
 refine af ev fun x aE e1 e2=>?_;clear ev
 refine af e2 fun y aY e3 e4=>?_;clear e2
 refine af e4 fun zs fV e5 e6=>?_;clear e4
 refine eO e6 fun dC dk=>?_;clear e6;subst dC dk
 refine evalPairs_cons (hf T W m σ s x _ _ E ok R e1 fun W₁ aq ar bp ag ak aK=>?_)
 refine wpAny_bind (hg T W₁ m _ _ y _ _ E (ok.mono ag) ak e3 fun ae aJ aG ef ax az aV=>wpAny_bind (wpAny_standAt (wpAny_pure ?_)))
 exact hr T ae m _ {s with heap:=aJ,toks:=aG} zs _ pos _ E (ok.mono (ag.trans ax)) az e5 fun bu bq aQ kY bj cc eC=>P bu bq aQ _ ((ag.trans ax).trans bj) cc ⟨aK.mono (ax.trans bj),aV.mono bj,eC⟩
theorem CV:SE G n b (xO sW) (.Dict [] [] pos):=by
 intro T W m σ s a aF Q E ok R ev P
 refine dS (show jX (.dict []) σ=some (a,aF) from ev) fun eD fG=>?_;clear ev;subst eD fG
 refine newDict_K R.fr R.nw ok.gL.T.nolimit fun d h' o F' N' l1 lo hd _ _ _=>?_
 refine P _ h' s.toks _ (W.aS d [(d,o)]) (R.push (l:=[(d,o)]) F' N' (fun p hp q hq=>by refine aa (dU hq) ?_;exact l1 p hp) (by simp) ⟨o,[],rfl,hd,lo, .nil⟩) (R.eE _ _)
theorem G1{ks:List (Option Expr)}(HW:ks.all (·.isSome)=true)(hl:ks.length=vs.length)(h0:ks≠[])(h15:ks.length<=15)(h:Oj G n b f ks vs):SE G n b (xO f) (.Dict ks vs pos):=by
 intro T W m σ s a aF Q E ok R ev P
 refine af ev fun as aE e1 e2=>?_;clear ev
 refine ab e2 fun es e3 e4=>?_;clear e2
 refine au e4 fun hs e5=>?_;clear e4
 refine dS e5 fun gF gg=>?_;clear e5;subst gF gg
 refine kdn_eval (knd:=strKind G.prog G.w) R.fr R.nw ok.gL.T.nolimit HW hl h0 h15 fun d h' o F' N' l1 lo hd=>?_
 have R0:(T.aD [(d,o)]).Rep G h' m W σ:=R.pP (l:=[(d,o)]) F' N' (fun p hp q hq=>by refine aa (dU hq) ?_;exact Nat.ne_of_lt (l1 p hp)) (by simp)
 refine h (T.aD [(d,o)]) W m σ {s with heap:=h'} as aE pos _ E (ok.aD _) R0 e1 fun W₁ aq ar ps ag ak aK=>?_
 refine fK (rm aK (.nil:DR W₁ [] []) (by simp) e3) fun g1 g2 g3=>?_
 simp only [List.nil_append] at g2 g3
 refine fK (ak.Be (l:=[(d,o)])) fun fresh nl N1=>?_
 have Rb:=ak.kg (l:=[(d,o)])
 have U:UpdF d o ([(d,o)]++W₁.news T.fz) (fun o'=>(d,o')::W₁.news T.fz):= .head fun p hp=>fresh p hp (d,o) cg
 refine kdn_made_str ak.fr N1 U hd g1 g3 fun aJ o' adB adz U5=>?_
 exact P _ aJ _ _ (ag.trans (W₁.aS d [(d,o')])) (Rb.uE (l:=[(d,o')]) adB adz (fun p hp q hq=>by refine aa (dU hq) ?_;exact fresh p hp (d,o) cg) (by simp) ⟨o',_,rfl,U5,lo,g2.mono (W₁.aS _ _)⟩) (Rb.eE _ _)
end
theorem uP [DecidableEq α]:∀(l m:List α),l.Nodup->(∀x∈l,x∈m)->l.length<=m.length
 | [],_,_,_=>Nat.zero_le _
 |a::l,m,nd,h=>by
  rw [List.nodup_cons] at nd
  have ha:=h a cg
  have:=uP l (m.erase a) nd.2 fun x hx=>(List.mem_erase_of_ne (fun e:x=a=>nd.1 (by refine aa (Eq.symm e) ?_;exact hx))).mpr (h x (fw _ hx))
  replace this:=(List.length_erase_of_mem ha)▸this
  have hp:0<m.length:=List.length_pos_of_mem ha
  refine aa List.length_cons ?_;omega
theorem qT{f:α->β}(hf:∀a b,f a=f b->a=b):∀{l:List α},l.Nodup->(l.map f).Nodup
 | [],_=>List.nodup_nil
 |a::l,nd=>by
  rw [List.nodup_cons] at nd
  rw [List.map_cons,List.nodup_cons]
  refine ⟨fun h=>?_,qT hf nd.2⟩
  refine ay (nS h) fun c hc e=>?_
  exact nd.1 (hf _ _ e▸hc)
theorem qV:∀{l:List (Nat×α)} {a:α},ah x l=some a->x∈l.map (·.1)
 | [],_,e=>zS e
 |(y,b)::l,a,e=>by
  replace e:=(aI ..)▸e
  by_cases q:y=x
  ·subst q;simp
  ·replace e:=(if_neg q)▸e;refine aa List.map_cons ?_;exact fw _ (qV e)
theorem uH{kvs:List (Str×Value)}(nd:(kvs.map (·.1)).Nodup):kvs.length<=kn.length+(kvs.filter (jE kn)).length:=by
 have h1:kvs.length=(kvs.filter fun p=>!jE kn p).length+(kvs.filter (jE kn)).length:=by
  induction kvs with
  |nil=>rfl
  |cons p r ih=>
   have:=ih (List.nodup_cons.mp nd).2
   refine aa List.filter_cons (aa List.filter_cons ?_)
   cases jE kn p<;>simp<;>omega
 have h2:((kvs.filter fun p=>!jE kn p).map fun p=>code p.1).length<=(kn.map (·.1)).length:=by
  refine uP _ _ ?_ fun x hx=>?_
  ·have:(kvs.map fun p=>code p.1).Nodup:=by
    have e:(kvs.map fun p=>code p.1)=(kvs.map (·.1)).map code:=by simp
    refine aa e ?_
    exact qT (fun a c q=>code_inj q) nd
   exact this.sublist (List.Sublist.map _ (List.filter_sublist))
  ·refine ay (nS hx) fun p hp b7=>?_;clear hx;subst b7
   have:=(List.mem_filter.mp hp).2
   unfold jE at this
   generalize q:ah (code p.1) kn=bZ;induction bZ with
   |none=>replace this:=q▸this;exact zT this
   |some a=>exact qV q
 replace h2:=(List.length_map ..)▸h2;replace h2:=(List.length_map ..)▸h2
 omega
theorem tW(nd:(kvs.map (·.1)).Nodup)(k:Str)(v:Value)(x:Str):valueAt (stored kvs k v) x=if k=x then some v else valueAt kvs x:=by
 induction kvs with
 |nil=>
  show valueAt [(k,v)] x=_
  unfold valueAt
  refine aa List.find?_cons ?_
  by_cases q:k=x
  ·subst q;simp
  ·simp [q]
 |cons p r ih=>
  obtain ⟨y,u⟩:=p
  refine aa (m2 nd) ?_
  have ih':=ih (List.nodup_cons.mp nd).2
  unfold valueAt at ih' ⊢
  by_cases q:y=k
  ·subst q
   refine aa (if_pos rfl) (aa List.find?_cons (aa List.find?_cons ?_))
   by_cases z:y=x
   ·subst z;simp
   ·simp [z]
  ·refine aa (if_neg q) (aa List.find?_cons (aa List.find?_cons ?_))
   by_cases z:y=x
   ·subst z
    have:¬ k=y:=fun e=>q e.symm
    simp [this]
   ·simp only [z,decide_false];exact ih'
theorem xN(hk:ah (code k) kn=some ov)(nv:Option AV):(stored kvs k v).filter (jE (b8 (code k) nv kn))=kvs.filter (jE kn):=by
 have e:jE (b8 (code k) nv kn)=jE kn:=by
  funext p
  unfold jE
  refine aa (cU ..) ?_
  by_cases q:code k=code p.1
  ·refine aa (if_pos q ..) (aa (Eq.symm (q ..)) (aa (hk ..) ?_));rfl
  ·exact aa (if_neg q ..) rfl
 refine aa e ?_
 have hu:∀w:Value,jE kn (k,w)=false:=fun w=>by unfold jE;refine aa hk ?_;rfl
 have hm:∀l:List (Str×Value),(l.map fun kv=>if kv.1=k then (kv.1,v) else kv).filter (jE kn)=l.filter (jE kn):=by
  intro l
  induction l with
  |nil=>rfl
  |cons q r ih=>
   refine aa List.map_cons (aa List.filter_cons (aa List.filter_cons (aa ih ?_)))
   by_cases z:q.1=k
   ·refine aa (if_pos z) ?_
    have h1:jE kn (q.1,v)=false:=by refine aa z ?_;exact hu v
    have h2:jE kn q=false:=by obtain ⟨a,c⟩:=q;dsimp only at z;refine aa z ?_;exact hu c
    refine aa h1 (aa h2 ?_);rfl
   ·exact aa (if_neg z) rfl
 unfold stored
 split
 ·exact hm kvs
 ·refine aa (List.filter_append ..) (aa (List.filter_cons ..) (aa (hu v ..) ?_))
  simp
noncomputable def SA(G:Gx)(n:Nat)(b:gf)(f:As)(t:Expr):Prop:=∀(T:At) (W:Wd) (m:Str->Option Value) (σ:St) (s:Shared) (a:AV) (v:Value) (aF:St) (Q:Unit->Shared->Prop) (E:Value->Shared->Prop),
 T.Ok G n b W->T.Rep G s.heap m W σ->VR W a v->f a T.cx σ=some aF->nx G T W aF (fun _ _=>True) Q s->wpAny (model G.prog G.w) T.A (assign t T.env v) Q E s
theorem uy(x:Nat)(v:α):∀l:List (Nat×α),(b8 x v l).length<=l.length+1
 | []=>by refine aa (ux ..) ?_;simp
 |(a,c)::r=>by
  have:=uy x v r
  refine aa (eZ ..) ?_
  split
  ·simp
  ·simp only [List.length_cons];omega
theorem EI(h:FR W fs es)(x:Str):(getL x es).isSome=true:=by refine ay (h.look x) fun r e _=>?_;refine aa e ?_;rfl
section
theorem wO(ca:dX G)(ok:T.Ok G n b W)(R:T.Rep G s.heap m W σ)
  (hx:VR W x u) (hy:VR W y v) (e:uf G.P σ.mem x (code name) y=some mem') (P:nx G T W (aB σ mem') (fun _ _=>True) Q s):wpAny (model G.prog G.w) T.A (setAttr u name v) Q E s:=by
 induction x with
 |o i=>
  refine ab e fun o e1 e2=>?_;clear e
  induction o with
  |inst C fs=>
   refine ab e2 fun ci e3 e4=>?_;clear e2
   refine ab e4 fun at_ e5 e6=>?_;clear e4
   induction at_ with
   |own=>
    refine au (l:=fs) e6 fun hs e7=>?_;clear e6
    have gR:=aH e7;clear e7;subst gR
    refine R.En e1 hx fun ad dx es k ci' ha hl I f e8 wn=>?_;clear e1 hx
    replace e8:=e3▸e8;have cW:=aH e8;clear e8;subst cW
    have co:=ca C _ e3
    refine aM (co.own name e5) fun _ ht=>?_
    refine R.iu (i:=i) (u:=[(ad,instObj C dx)]) (v:=[]) hl fun pre post s1 s2 s3 s4=>?_
    have fp:=f.put name (PyData.keyHash G.w.params name) (s.toks+1) hy
    have hz:(putL name (PyData.keyHash G.w.params name) (.str name (s.toks+1)) v es).length<=1000:=by
     refine aa (Eq.symm fp.length) ?_
     have:=uy (code name) y fs
     omega
    have U:=kZ (o':=dictOf (putL name (PyData.keyHash G.w.params name) (.str name (s.toks+1)) v es) (putN name es k)) (o:=dictOf es k) s3 s4
    replace U:=(Eq.symm (s1 ..))▸U;replace U:=(Eq.symm (s2 ..))▸U
    refine set_dict R.fr ok.gL.X R.nw I rfl co.set co.plain ht co.dict (EI f name) rfl U hz fun h' F' N'=>?_
    refine P _ m h' _ () (W.aP i _) (R.rT F' N' hl ha rfl ⟨dx,_,_,ci,rfl,fp.mono (W.aP i _),e3,fun x w hw=>?_⟩) trivial
    replace hw:=(cU ..)▸hw
    by_cases q:code name=x
    ·subst q;exact e5
    ·replace hw:=(if_neg q)▸hw;exact wn x w hw
   |_=>exact zS e6
  |_=>exact zS e2
 |_=>exact zS e
theorem wN(R:T.Rep G s.heap m W σ)
  (hx:VR W x u) (hz:VR W z kv) (hy:VR W y v) (e:ue σ.mem x z y=some mem') (P:nx G T W (aB σ mem') (fun _ _=>True) Q s):wpAny (model G.prog G.w) T.A (setItem u kv v) Q E s:=by
 induction x with
 |o i=>
  induction z with
  |str k=>
   refine VR.eB hz fun t=>?_;clear hz
   refine ab e fun o e1 e2=>?_;clear e
   induction o with
   |dict es=>
    refine au (l:=es) e2 fun hs e3=>?_;clear e2
    have eY:=aH e3;clear e3;subst eY
    refine R.dP e1 hx fun ad ob kvs ha hl hm hd r lo=>?_;clear e1 hx
    refine R.iu (i:=i) (u:=[]) (v:=[]) hl fun pre post s1 s2 s3 s4=>?_
    have U:=fu (o:=ob) s3 s4
    replace U:=(Eq.symm s1)▸U
    refine kda_set R.fr R.nw U hd (strKind_is _ _ _ _) (by refine aa (Eq.symm r.length) (aa sizeLine_eq ?_);omega) fun h' o' F' N' tN=>?_
    have N2:News T.h₀ T.L h' ((W.upd i [(ad,o')]).news T.fz):=by refine aa (show (W.upd i [(ad,o')]).news T.fz=pre++(ad,o')::post from s2 o') ?_;exact N'
    exact P _ m h' _ () (W.aP i _) (R.rT F' N2 hl ha rfl ⟨o',_,rfl,tN,lo,(r.put (gj hd) k hy).mono (W.aP i _)⟩) trivial
   |pmap kn j=>
    refine ab e2 fun ov e3 e4=>?_;clear e2
    refine au (l:=kn) e4 fun hs e5=>?_;clear e4
    have dQ:=aH e5;clear e5;subst dQ
    refine R.p9 e1 hx fun ad l ha hl qa=>jB qa fun ob kvs qe hd lo w g=>eN w fun r g1 g2 g3=>?_;clear qa;subst qe
    refine R.iu (i:=i) (u:=[]) (v:=[]) hl fun pre post s1 s2 s3 s4=>?_
    have U:=fu (o:=ob) s3 s4
    replace U:=(Eq.symm s1)▸U
    have nd:=gj hd
    refine kda_set R.fr R.nw U hd (strKind_is _ _ _ _) (by have:=uH (kn:=kn) nd;replace this:=g2▸this;refine aa sizeLine_eq ?_;omega) fun h' o' F' N' tN=>?_
    have N2:News T.h₀ T.L h' ((W.upd i [(ad,o')]).news T.fz):=by refine aa (show (W.upd i [(ad,o')]).news T.fz=pre++(ad,o')::post from s2 o') ?_;exact N'
    refine P _ m h' _ () (W.aP i _) (R.rT F' N2 hl ha rfl ⟨o',_,rfl,tN,lo,⟨r,g1,by refine aa (xN e3 ..) ?_;exact g2,g3⟩,fun x ow hw=>?_⟩) trivial
    replace hw:=(cU ..)▸hw
    refine aa (tW nd ..) ?_
    by_cases q:code k=code x
    ·replace hw:=(if_pos q)▸hw;have cZ:=aH hw;clear hw;subst cZ
     refine aa (if_pos (code_inj q) ..) ?_;exact hy
    ·replace hw:=(if_neg q)▸hw
     refine aa (if_neg (fun z=>q (by rw [z]))) ?_
     exact fJ.mono (W.aP i _) (g x ow hw)
   |_=>exact zS e2
  |_=>exact zS e
 |_=>exact zS e
theorem G6(ca:dX G)(hf:SE G n b f e):SA G n b (FH G.P f (code name)) (.Attribute e name pos):=by
 intro T W m σ s a v aF Q E ok R hv ev P
 refine af ev fun x aE e1 e2=>?_;clear ev
 refine kC e2 fun mm e3 dk=>?_;clear e2;subst dk
 refine aa (assign_Attribute ..) ?_
 refine wpAny_bind (wpAny_holding (hf T W m σ s x _ _ E ok R e1 fun W₁ aq ar bp ag ak aK=>wpAny_bind (wpAny_standAt (wpAny_bind (wpAny_holding ?_)))))
 exact wO ca (s:={s with heap:=aq,toks:=ar}) (ok.mono ag) ak aK (hv.mono ag) e3 fun ae m₂ aJ aG _ ax az _=>wpAny_release (P ae m₂ aJ aG () (ag.trans ax) az trivial)
theorem KN(hf:SE G n b f e)(hg:SE G n b g i):SA G n b (JH f g) (.Subscript e i pos):=by
 intro T W m σ s a v aF Q E ok R hv ev P
 refine af ev fun x aE e1 e2=>?_;clear ev
 refine af e2 fun y aY e3 e4=>?_;clear e2
 refine kC e4 fun mm e5 eD=>?_;clear e4;subst eD
 refine aa (assign_Subscript ..) ?_
 refine wpAny_bind (wpAny_holding (hf T W m σ s x _ _ E ok R e1 fun W₁ aq ar bp ag ak aK=>wpAny_bind (wpAny_holding ?_)))
 refine hg T W₁ m _ _ y _ _ E (ok.mono ag) ak e3 fun ae aJ aG ef ax az aV=>wpAny_bind (wpAny_standAt (wpAny_bind (wpAny_holding ?_)))
 exact wN (s:={s with heap:=aJ,toks:=aG}) az (aK.mono ax) aV (hv.mono (ag.trans ax)) e5 fun bu gT bq aQ _ bj cc _=>wpAny_release (P bu gT bq aQ () ((ag.trans ax).trans bj) cc trivial)
theorem jH(x:Str)(pos:Pos)(H:we):SA G n b (den G.P H (fM b x)).asg (.Name x pos):=by
 intro T W m σ s a v aF Q E ok R hv ev P
 have env:=ok.env
 induction b with
 |fn sc=>
  refine env.MS fun hc he cn scope fa kX cl e0 qe hk ck _=>?_;clear env;subst qe
  unfold fM at ev
  dsimp only at ev
  replace ev:=(cM ..)▸ev
  generalize hx:scope.names.lookup x=bZ;induction bZ with
  |none=>replace ev:=hx▸ev;exact zS ev
  |some k=>
   replace ev:=hx▸ev
   have Je:(envX cn scope T.L fa kX cl).kindOf x=some k:=hx
   refine aa he (aa e0 ?_)
   induction k with
   | «local»=>
    have dW:(Option.rec (some (bQ σ (b8 (code x) a σ.loc))) (fun _=>none) T.cx.comp:Option St)=some aF:=ev
    replace dW:=hc▸dW
    have dq:=aH dW;clear dW;clear ev;subst dq
    refine wpAny_assign_Name (storeX_L R.fr R.nw (fun h' F' N'=>?_) hk Je)
    exact P W _ h' _ () (.refl _) (R.locs F' N' (R.loc.put x hv)) trivial
   |cell=>
    have dW:(Option.rec (ob (ah (code x) T.cx.cells) fun c=>ob (σ.mem.get c) fun o=>Bool.rec none (some (aB σ (σ.mem.set c (.cell a)))) (zk o)) (fun _=>none) T.cx.comp:Option St)=some aF:=ev
    replace dW:=hc▸dW
    refine ab dW fun c e1 e2=>?_;clear dW
    refine ab e2 fun o e3 e4=>?_;clear e2
    refine ay (ck x c e1) fun ca e5 e6=>?_
    have cell:∃ob B9,W.ls[c]?=some [(ca,ob)]/\ob.data= .cell B9/\aF=aB σ (σ.mem.set c (.cell a)):=by
     induction o with
     |cell w=>
      have dp:=aH e4;clear e4;clear P ev;subst dp
      refine R.rB e3 (v:= .ref ca) ⟨ca,e5,rfl⟩ fun a' l e9 e7 e8 qa=>dM qa fun ob u qe hd r=>?_;clear qa;subst qe
      cases e9
      exact ⟨ob,_,e8,hd,rfl⟩
     |cy=>
      have fQ:=aH e4;clear e4;clear P ev;subst fQ
      refine R.rB e3 (v:= .ref ca) ⟨ca,e5,rfl⟩ fun a' l e9 e7 e8 qa=>iJ qa fun ob B9 qe hd=>?_;clear qa;subst qe
      cases e9
      exact ⟨ob,_,e8,hd,rfl⟩
     |_=>exact zS e4
    refine dM cell fun ob B9 hl hd fG=>?_;clear cell;clear ev e4;subst fG
    refine R.iu (i:=c) (u:=[]) (v:=[]) hl fun pre post s1 s2 s3 s4=>?_
    have U:=fu (o:=ob) s3 s4
    replace U:=(Eq.symm s1)▸U
    refine wpAny_assign_Name (storeX_C R.fr R.nw e6 U hd (fun h' o' F' N' tN=>?_) hk Je)
    have N2:News T.h₀ T.L h' ((W.upd c [(ca,o')]).news T.fz):=by refine aa (show (W.upd c [(ca,o')]).news T.fz=pre++(ca,o')::post from s2 o') ?_;exact N'
    exact P _ m h' _ () (W.aP c _) (R.rT F' N2 hl e5 rfl ⟨o',v,rfl,tN,hv.mono (W.aP c _)⟩) trivial
   |_=>exact zS ev
 |comp sc tL=>exact zS ev
noncomputable def NB(G:Gx)(n:Nat)(b:gf)(f:Gl)(ts:List Expr):Prop:=(∀env,(assignEach ts env).findIdx? (·.1)=none/\(assignEach ts env).length=ts.length)/\(∀as cx σ aF,f as cx σ=some aF->as.length=ts.length)/\
 ∀(T:At) (W:Wd) (m:Str->Option Value) (σ:St) (s:Shared) (as:List AV) (vs:List Value) (aF:St) (Q:Unit->Shared->Prop) (E:Value->Shared->Prop),
 T.Ok G n b W->T.Rep G s.heap m W σ->bE W as vs->f as T.cx σ=some aF->nx G T W aF (fun _ _=>True) Q s->wpAny (model G.prog G.w) T.A (assignInOrder ((assignEach ts T.env).map (·.2)) vs) Q E s
theorem yv:NB G n b xZ []:=by
 refine ⟨fun _=>⟨rfl,rfl⟩,fun as cx σ aF e=>?_,fun T W m σ s as vs aF Q E ok R r ev P=>?_⟩
 ·induction as using iM with
  |nil=>rfl
  |cons _ _=>exact zS e
 ·induction as using iM with
  |nil=>
   have eX:=aH ev;clear ev;subst eX
   induction vs using iM with
   |nil=>exact wpAny_assignInOrder_none (P W m s.heap s.toks () (.refl _) R trivial)
   |cons _ _=>exact r.elim
  |cons _ _=>exact zS ev
theorem jP(h:isStar t=false)(ts:List Expr)(env:Env):assignEach (t::ts) env=(false,assign t env)::assignEach ts env:=by
 induction t using PySem.Expr.casesOn<;>first | rfl | exact zF h
theorem oB(ht:isStar t=false)(hf:SA G n b f t)(hg:NB G n b g ts):NB G n b (n8 f g) (t::ts):=by
 refine ⟨fun env=>?_,fun as cx σ aF e=>?_,fun T W m σ s as vs aF Q E ok R r ev P=>?_⟩
 ·refine aM (hg.1 env) fun h1 h2=>?_
  refine aa (jP ht ..) ?_
  refine ⟨?_,by exact aa List.length_cons (aa List.length_cons (aa h2 rfl))⟩
  refine aa List.findIdx?_cons ?_
  simp only [Bool.false_eq_true,if_false,h1];rfl
 ·induction as using iM with
  |nil=>exact zS e
  |cons a as=>
   refine ab (show ob (f a cx σ) (fun σ=>g as cx σ)=some aF from e) fun aE e1 e2=>?_
   exact aa List.length_cons (aa List.length_cons (aa (hg.2.1 as cx aE aF e2) rfl))
 ·induction as using iM with
  |nil=>exact zS ev
  |cons a as=>
   induction vs using iM with
   |nil=>exact r.elim
   |cons v vs=>
    refine ab (show ob (f a T.cx σ) (fun σ=>g as T.cx σ)=some aF from ev) fun aE e1 e2=>?_
    refine aa (jP ht ..) ?_
    refine wpAny_assignInOrder_more (hf T W m σ s a v aE _ E ok R r.1 e1 fun W₁ m₁ aq ar _ ag ak _=>?_)
    exact hg.2.2 T W₁ m₁ aE {s with heap:=aq,toks:=ar} as vs aF Q E (ok.mono ag) ak (r.2.mono ag) e2 fun ae m₂ aJ aG _ ax az _=>P ae m₂ aJ aG () (ag.trans ax) az trivial
theorem rV(hg:NB G n b g ts){ad:Addr}(ok:T.Ok G n b W)(R:T.Rep G s.heap m W σ)
  (r:bE W xs vs) (ht:IsTup s.heap ad vs.toArray) (e2:g xs T.cx σ=some aF) (P:nx G T W aF (fun _ _=>True) Q s):wpAny (model G.prog G.w) T.A (assign (.Tuple ts k pos) T.env (.ref ad)) Q E s:=by
 have hl:=hg.2.1 xs T.cx σ aF e2
 refine aM (hg.1 T.env) fun h1 h2=>?_
 refine assign_Tuple_tuple ok.gL.hh ht (by exact aa h2 (aa List.size_toArray (aa (Eq.symm r.length) (aa hl rfl)))) h1 fun h' he=>?_
 exact hg.2.2 T W m σ {s with heap:=h'} xs vs aF Q E ok (R.heap (R.fr.extBut he (Nat.le_refl _)) (R.nw.extBut he (Nat.le_refl _))) r e2 fun ae m₂ aJ aG _ ax az _=>P ae m₂ aJ aG () ax az trivial
theorem KL(gk:qi G)(hg:NB G n b g ts):SA G n b (JG G.P g) (.Tuple ts k pos):=by
 intro T W m σ s a v aF Q E ok R hv ev P
 refine ab ev fun xs e1 e2=>?_;clear ev
 induction a with
 |k c=>
  subst hv
  refine ay (nT gk ok R e1) fun vs r ht=>?_
  exact rV hg ok R r ht e2 P
 |o i=>
  refine ab e1 fun o e4 e5=>?_;clear e1
  induction o with
  |tup xs'=>
   have fO:=aH e5;clear e5;subst fO
   refine R.pE e4 hv fun ad vs r ht=>?_;clear e4 hv
   exact rV hg ok R r ht e2 P
  |_=>exact zS e5
 |_=>exact zS e1
theorem xQ(R:T.Rep G s.heap m W σ)
  (hx:VR W x u) (hz:VR W z kv) (e:vQ σ.mem x z=some mem') (P:nx G T W (aB σ mem') (fun _ _=>True) Q s):wpAny (model G.prog G.w) T.A (delItem u kv) Q E s:=by
 induction x with
 |o i=>
  induction z with
  |str k=>
   refine VR.eB hz fun t=>?_;clear hz
   refine ab e fun o e1 e2=>?_;clear e
   induction o with
   |pmap kn j=>
    refine ab e2 fun ov e3 e4=>?_;clear e2
    induction ov with
    |none=>exact zS e4
    |some a=>
     refine au (l:=kn) e4 fun hs e5=>?_;clear e4
     have eW:=aH e5;clear e5;subst eW
     refine R.p9 e1 hx fun ad l ha hl qa=>jB qa fun ob kvs qe hd lo w g=>eN w fun r g1 g2 g3=>?_;clear qa;subst qe
     refine R.iu (i:=i) (u:=[]) (v:=[]) hl fun pre post s1 s2 s3 s4=>?_
     have U:=fu (o:=ob) s3 s4
     replace U:=(Eq.symm s1)▸U
     have nd:=gj hd
     refine ay ((g k _ e3).some) fun w gw _=>?_
     refine kob_del R.fr R.nw U hd (strKind_is _ _ _ _) (by refine aa gw ?_;rfl) (by have:=uH (kn:=kn) nd;replace this:=g2▸this;refine aa sizeLine_eq ?_;omega) fun h' o' F' N' tN=>?_
     have N2:News T.h₀ T.L h' ((W.upd i [(ad,o')]).news T.fz):=by refine aa (show (W.upd i [(ad,o')]).news T.fz=pre++(ad,o')::post from s2 o') ?_;exact N'
     have hu:jE (b8 (code k) none kn)=jE kn:=by
      funext p
      unfold jE
      refine aa (cU ..) ?_
      by_cases q:code k=code p.1
      ·refine aa (if_pos q ..) (aa (Eq.symm (q ..)) (aa (e3 ..) ?_));rfl
      ·exact aa (if_neg q ..) rfl
     refine P _ m h' _ () (W.aP i _) (R.rT F' N2 hl ha rfl ⟨o',_,rfl,tN,lo,⟨r,g1,?_,g3⟩,fun x ow hw=>?_⟩) trivial
     ·refine aa hu (aa (Eq.symm g2) ?_)
      unfold without
      refine aa List.filter_filter ?_
      refine List.filter_congr fun p _=>?_
      by_cases q:p.1=k
      ·have:jE kn p=false:=by unfold jE;refine aa q (aa e3 ?_);rfl
       exact aa (this ..) (aa (Bool.false_and ..) rfl)
      ·exact aa (decide_eq_true q ..) (aa (Bool.and_true ..) rfl)
     ·replace hw:=(cU ..)▸hw
      have hv:valueAt (without kvs k) x=if k=x then none else valueAt kvs x:=by
       unfold valueAt without
       refine aa List.find?_filter ?_
       by_cases q:k=x
       ·subst q
        rw [if_pos rfl,List.find?_eq_none.mpr ?_];· rfl
        intro p _;simp
       ·refine aa (if_neg q) ?_
        congr 2
        funext p
        by_cases z:p.1=x
        ·have:¬ p.1=k:=fun e=>q (e.symm.trans z)
         simp [z,this]
         exact fun e=>q e.symm
        ·simp [z]
      refine aa hv ?_
      by_cases q:code k=code x
      ·replace hw:=(if_pos q)▸hw;have gh:=aH hw;clear hw;subst gh
       refine aa (if_pos (code_inj q)) ?_;trivial
      ·replace hw:=(if_neg q)▸hw
       refine aa (if_neg (fun z=>q (by rw [z]))) ?_
       exact fJ.mono (W.aP i _) (g x ow hw)
   |_=>exact zS e2
  |_=>exact zS e
 |_=>exact zS e
end
theorem nE(hit:IsRangeIter s'.heap I x l 1)(h:Q' () s'):
  wpAny (model prog w) A (letOwnedTupleGo target (.ref I) v) Q' E s':=by
 unfold letOwnedTupleGo
 induction target using PySem.Expr.casesOn<;>first
  |exact wpAny_pure h
  |(induction v<;>first
    |exact wpAny_pure h
    |(refine wpAny_bind (wpAny_load hit ?_);exact wpAny_pure h))
theorem uq{k:Nat}(hk:k<=100):Builtin.Range.small 0 (k:Int) 1=true:=by
 have:∀k:Fin 101,Builtin.Range.small 0 ((k.val:Nat):Int) 1=true:=by decide +kernel
 exact this ⟨k,by omega⟩
theorem tX:∀(n k i:Nat),(upTo n k)[i]?=if i<n then some (.int ((k:Int)+i)) else none
 | 0,k,i=>by simp [upTo]
 |n+1,k,0=>by simp [upTo]
 |n+1,k,i+1=>by
  rw [upTo,List.getElem?_cons_succ,tX n (k+1) i]
  by_cases h:i<n
  ·rw [if_pos h,if_pos (by omega)]
   congr 2
   push_cast
   omega
  ·rw [if_neg h,if_neg (by omega)]
theorem lh:∀(n k:Nat),(upTo n k).length=n
 | 0,_=>rfl
 |n+1,k=>by rw [upTo,List.length_cons,lh n (k+1)]
section
theorem Rep.hide(R:Rep G h₀ L fz h m W σ)(hl:W.ls[i]?=some l):Rep G h₀ L (l++fz) h m (W.upd i []) (aB σ (σ.mem.set i .gone)):=by
 refine iJ (jh hl) fun A B e1 e2=>?_
 have hi:i<W.ls.length:=(jN hl).1
 have pm:((W.upd i []).news (l++fz)).Perm (W.news fz):=by
  show ((W.ls.set i []).flatten++(W.fx++(l++fz))).Perm (W.ls.flatten++(W.fx++fz))
  refine aa (e2 ..) (aa (e1 ..) ?_)
  simp only [List.flatten_append,List.flatten_cons,List.nil_append]
  refine aa (Eq.symm (eP W.fx ..)) ?_
  have p1:(W.fx++l++fz).Perm (l++(W.fx++fz)):=by
   refine aa (Eq.symm (eP ..)) ?_;exact List.Perm.append_right _ List.perm_append_comm
  refine (List.Perm.append_left _ p1).trans ?_
  refine aa (Eq.symm (eP (A.flatten++B.flatten) ..)) (aa (eP A.flatten B.flatten l ..) ?_)
  refine aa (Eq.symm (eP (A.flatten++(l++B.flatten)) ..)) ?_
  refine aa (Eq.symm (eP (A.flatten++(B.flatten++l)) ..)) ?_
  exact List.Perm.append_right _ (List.Perm.append_right _ (List.Perm.append_left _ List.perm_append_comm))
 refine ⟨R.fr,fun p hp=>R.nw p (pm.mem_iff.mp hp),(pm.map (·.1)).nodup_iff.mpr R.nd,Mem.kz R.mem i .gone,R.n1,by show (W.ls.set i []).length=_;refine aa List.length_set ?_;exact R.n2,R.n3,fun j o' e=>?_,R.loc.mono (W.aP i []),⟨R.dat.tag,R.dat.eq,R.dat.int,R.dat.hd,R.dat.jO,R.dat.dg,R.dat.ds,R.dat.pT⟩⟩
 have e':(σ.mem.set i .gone).get j=some o':=e
 replace e':=(Mem.get_set ..)▸e'
 by_cases q:j=i
 ·subst q
  replace e':=(if_pos rfl)▸e'
  refine ay (Option.map_eq_some_iff.mp e') fun LM h0 b7=>?_;clear e;subst b7
  refine R.qS j LM h0 fun a k g1 g2 _=>?_;clear h0
  exact ⟨a,[],g1,by show (W.ls.set j [])[j]?=_;exact aa (List.getElem?_set_self hi) rfl,trivial⟩
 ·replace e':=(if_neg q)▸e'
  refine R.qS j o' e' fun a k g1 g2 g3=>?_;clear e'
  exact ⟨a,k,g1,by show (W.ls.set i [])[j]?=_;refine aa (List.getElem?_set_ne (Ne.symm q)) ?_;exact g2,g3.mono (W.aP i [])⟩
theorem Rep.Cc(R:Rep G h₀ L (l++fz) h m W σ)(ha:W.bg[i]?=some a)(ho:jD G.prog G.w G.P W a o l):Rep G h₀ L fz h m (W.upd i l) (aB σ (σ.mem.set i o)):=by
 have hi:i<W.ls.length:=by refine aa R.n2 (aa (Eq.symm R.n1) ?_);exact (jN ha).1
 refine iJ (jh (iV hi)) fun A B e1 e2=>?_
 generalize W.ls[i]=l' at e1
 have pm:(W.news (l++fz)).Perm (l'++(W.upd i l).news fz):=by
  show (W.ls.flatten++(W.fx++(l++fz))).Perm (l'++((W.ls.set i l).flatten++(W.fx++fz)))
  refine aa (e2 ..) (aa (e1 ..) ?_)
  simp only [List.flatten_append,List.flatten_cons]
  generalize A.flatten=x
  generalize B.flatten=y
  have p1:(W.fx++(l++fz)).Perm (l++(W.fx++fz)):=by
   refine aa (Eq.symm (eP ..)) (aa (Eq.symm (eP ..)) ?_);exact List.Perm.append_right _ List.perm_append_comm
  refine (List.Perm.append_left _ p1).trans ?_
  generalize W.fx++fz=z
  have p2:(x++(l'++y)++(l++z)).Perm (l'++(x++y)++(l++z)):=by
   refine List.Perm.append_right _ ?_
   refine aa (Eq.symm (eP ..)) (aa (Eq.symm (eP ..)) ?_)
   exact List.Perm.append_right _ List.perm_append_comm
  refine p2.trans ?_
  refine aa (eP ..) ?_
  refine List.Perm.append_left _ ?_
  refine aa (Eq.symm (eP ..)) (aa (eP x y l ..) ?_)
  exact List.Perm.append_right _ (List.Perm.append_left _ List.perm_append_comm)
 have nd:=(pm.map (·.1)).nodup_iff.mp R.nd
 rw [List.map_append,List.nodup_append] at nd
 refine ⟨R.fr,fun p hp=>R.nw p (pm.mem_iff.mpr (List.mem_append_right _ hp)),nd.2.1,Mem.kz R.mem i o,R.n1,by show (W.ls.set i l).length=_;refine aa List.length_set ?_;exact R.n2,R.n3,fun j o' e=>?_,R.loc.mono (W.aP i l),⟨R.dat.tag,R.dat.eq,R.dat.int,R.dat.hd,R.dat.jO,R.dat.dg,R.dat.ds,R.dat.pT⟩⟩
 have e':(σ.mem.set i o).get j=some o':=e
 replace e':=(Mem.get_set ..)▸e'
 by_cases q:j=i
 ·subst q
  replace e':=(if_pos rfl)▸e'
  refine ay (Option.map_eq_some_iff.mp e') fun LM h0 cw=>?_;clear e;subst cw
  exact ⟨a,l,ha,by show (W.ls.set j l)[j]?=_;exact aa (List.getElem?_set_self hi) rfl,ho.mono (W.aP j l)⟩
 ·replace e':=(if_neg q)▸e'
  refine R.qS j o' e' fun a' k g1 g2 g3=>?_;clear e'
  exact ⟨a',k,g1,by show (W.ls.set i l)[j]?=_;refine aa (List.getElem?_set_ne (Ne.symm q)) ?_;exact g2,g3.mono (W.aP i l)⟩
end
structure Src(G:Gx)(T:At)(s:Shared)(W:Wd)(v:Value)(xs:List AV)(l:List (Addr×Obj))(I:Addr)(oI:Obj)(fp:List Addr)(P:Nat->Value->Prop)(St:Nat->Heap->Prop):Prop where
 hI:s.heap.objs.size=I
 it:∀Q E,Q (.ref I) {s with heap:=s.heap.push oI}->wpAny (model G.prog G.w) T.A (pyIter v) Q E s
 free:oI.isFreed=false
 walks:Walks G.prog G.w T.A I fp [I] xs.length P St
 val:∀i u,P i u->∃a,xs[i]?=some a/\VR W a u
 ON:St 0 (s.heap.push oI)
 fpb:∀b∈fp,b<I+1
 io:∀i h,St i h->∃o,h.get? I=some o
 st:∀i h h' o nw,St i h->h.get? I=some o->h'.get? I=some o->(∀b o,T.h₀.get? b=some o->h'.get? b=some o)->News T.h₀ T.L h' nw->(∀p∈l,p∈nw)->St i h'
 go:∀i target u s' Q E,St i s'.heap->Q () s'->wpAny (model G.prog G.w) T.A (letOwnedTupleGo target (.ref I) u) Q E s'
 N6:∀b∈fp,b=I\/(∃o,(b,o)∈l)\/∃o,T.h₀.get? b=some o
section
inductive SrcR(G:Gx)(T:At)(W:Wd)(m:Str->Option Value)(σ:St)(s:Shared)(x:AV)(v:Value)(xs:List AV):Prop
 |mk l W₁ oI fp P St (le:W.le W₁) (R:(T.aD l).Rep G s.heap m W₁ (aB σ (hide σ.mem x))) (S:Src G T s W₁ v xs l s.heap.objs.size oI fp P St)
  (fin:∀W' aF h' m' xp,W₁.le W'->(T.aD l).Rep G h' m' W' aF->iK σ.mem aF.mem x=some xp->∃jR,W'.le jR/\T.Rep G h' m' jR (aB aF xp)):SrcR G T W m σ s x v xs
theorem SrcR.out{C:Prop}(h:SrcR G T W m σ s x v xs)
  (k:∀l W₁ oI fp P St,W.le W₁->(T.aD l).Rep G s.heap m W₁ (aB σ (hide σ.mem x))->Src G T s W₁ v xs l s.heap.objs.size oI fp P St->(∀W' aF h' m' xp,W₁.le W'->(T.aD l).Rep G h' m' W' aF->iK σ.mem aF.mem x=some xp->∃jR,W'.le jR/\T.Rep G h' m' jR (aB aF xp))->C):C:=h.casesOn k
theorem oq(gk:qi G){T:At}(ok:T.Ok G n b W)(R:T.Rep G s.heap m W σ)(hv:VR W x v)(e:vd G.P σ.mem x=some xs):SrcR G T W m σ s x v xs:=by
 have hh:=ok.gL.hh
 induction x with
 |k c=>
  subst hv
  refine IE (gk.iW c xs e) fun vs dd nn sl g1 g2=>?_
  have r:=g2 W
  have h0:T.h₀.get? c=some _:=ok.gL.X _ _ g1
  have ht:IsTup s.heap c vs.toArray:=⟨_,R.fr.keep _ _ h0,rfl,nn,rfl⟩
  have qZ:c≠s.heap.objs.size:=Nat.ne_of_lt ht.lt
  have W1:=Walks.tuple (prog:=G.prog) (w:=G.w) hh s.heap.objs.size c qZ vs.toArray
  have hlen:vs.toArray.size=xs.length:=by exact aa List.size_toArray (aa r.length rfl)
  replace W1:=hlen▸W1
  refine ⟨[],W,_,_,_,_, .refl _,R,⟨rfl,fun Q E q=>wpAny_pyIter_tuple ht q,rfl,W1,fun i u hP=>?_,⟨⟨_,Heap.get?_push_size _ rfl,rfl,rfl⟩,ht.push _⟩,fun d hd=>?_,fun i h st=>?_,fun i h h' o nw st e1 e2 kp N _=>?_,fun i target u s' Q E st q=>letGo_tupleiter st.1 q,fun d hd=>?_⟩,fun W' aF h' m' xp le R' e'=>?_⟩
  ·have Jh:vs[i]?=some u:=by simpa using hP
   have hi:i<vs.length:=(jN Jh).1
   replace hi:=(Eq.symm r.length)▸hi
   refine r.qu (iV hi) fun z z1 z2=>?_
   replace z1:=Jh▸z1;have fG:=aH z1;clear z1;subst fG
   exact ⟨_,iV hi,z2⟩
  ·rcases gn hd with rfl | hd
   ·exact Nat.lt_succ_self _
   ·refine aa (dU hd) ?_;exact Nat.lt_succ_of_lt ht.lt
  ·refine ay st.1 fun o ho _=>?_;exact ⟨o,ho⟩
  ·refine ⟨?_,⟨_,kp _ _ h0,rfl,nn,rfl⟩⟩
   refine ay st.1 fun o' q rr=>?_
   replace q:=e1▸q;have gF:=aH q;clear q;subst gF;exact ⟨o,e2,rr⟩
  ·rcases gn hd with rfl | hd
   ·exact .inl rfl
   ·refine aa (dU hd) ?_;exact .inr (.inr ⟨_,h0⟩)
  ·have gg:=aH e';clear e';subst gg;exact ⟨W', .refl _,R'⟩
 |o i=>
  refine ab e fun o e1 e2=>?_;clear e
  refine R.p9 e1 hv fun ad l ha hl ho=>?_;clear hv
  have fin:∀W' aF h' m' xp,(W.upd i []).le W'->(T.aD l).Rep G h' m' W' aF->iK σ.mem aF.mem (.o i)=some xp->∃jR,W'.le jR/\T.Rep G h' m' jR (aB aF xp):=by
   intro W' aF h' m' xp le R' e'
   refine ab e' fun o' g1 g2=>?_;clear e'
   replace g1:=e1▸g1;have gR:=aH g1;clear g1;subst gR;have cW:=aH g2;clear g2;subst cW
   exact ⟨_,W'.aP i l,Rep.Cc R' (ai le.bg ha) ((ho.mono (W.aP i [])).mono le)⟩
  induction o with
  |list xs'=>
   cases e2
   refine iJ ho fun vs nn dk r=>?_;clear ho;subst dk
   have hm:=cD (fz:=T.fz) hl cg
   have ht:s.heap.IsList ad vs.toArray:=⟨_,(R.nw _ hm).1,rfl,nn,rfl⟩
   have jL:=Heap.lt_size (R.nw _ hm).1
   have W1:=Walks.list (prog:=G.prog) (w:=G.w) hh s.heap.objs.size ad (Nat.ne_of_lt jL) vs.toArray
   have hlen:vs.toArray.size=xs.length:=by exact aa List.size_toArray (aa r.length rfl)
   replace W1:=hlen▸W1
   refine ⟨_,W.upd i [],_,_,_,_,W.aP i [],R.hide hl,⟨rfl,fun Q E q=>wpAny_pyIter_list ht q,rfl,W1,fun i u hP=>?_,⟨⟨_,Heap.get?_push_size _ rfl,rfl,rfl⟩,ht.push _⟩,fun d hd=>?_,fun i h st=>?_,fun i h h' o nw st e1 e2 kp N sub=>?_,fun i target u s' Q E st q=>letGo_listiter st.1 q,fun d hd=>?_⟩,fin⟩
   ·have Jh:vs[i]?=some u:=by simpa using hP
    have hi:i<vs.length:=(jN Jh).1
    replace hi:=(Eq.symm r.length)▸hi
    refine r.qu (iV hi) fun z z1 z2=>?_
    replace z1:=Jh▸z1;have eY:=aH z1;clear z1;subst eY
    exact ⟨_,iV hi,z2.mono (W.aP _ [])⟩
   ·rcases gn hd with rfl | hd
    ·exact Nat.lt_succ_self _
    ·refine aa (dU hd) ?_;exact Nat.lt_succ_of_lt jL
   ·refine ay st.1 fun o ho _=>?_;exact ⟨o,ho⟩
   ·refine ⟨?_,⟨_,(N _ (sub _ cg)).1,rfl,nn,rfl⟩⟩
    refine ay st.1 fun o' q rr=>?_
    replace q:=e1▸q;have dQ:=aH q;clear q;subst dQ;exact ⟨o,e2,rr⟩
   ·rcases gn hd with rfl | hd
    ·exact .inl rfl
    ·refine aa (dU hd) ?_;exact .inr (.inl ⟨_,cg⟩)
  |tup xs'=>
   cases e2
   refine mj ho fun vs ob nn eD hc hd r=>?_;clear ho;subst eD
   have hm:=cD (fz:=T.fz) hl cg
   have ht:IsTup s.heap ad vs.toArray:=⟨_,(R.nw _ hm).1,hc,nn,hd⟩
   have jL:=Heap.lt_size (R.nw _ hm).1
   have W1:=Walks.tuple (prog:=G.prog) (w:=G.w) hh s.heap.objs.size ad (Nat.ne_of_lt jL) vs.toArray
   have hlen:vs.toArray.size=xs.length:=by exact aa List.size_toArray (aa r.length rfl)
   replace W1:=hlen▸W1
   refine ⟨_,W.upd i [],_,_,_,_,W.aP i [],R.hide hl,⟨rfl,fun Q E q=>wpAny_pyIter_tuple ht q,rfl,W1,fun i u hP=>?_,⟨⟨_,Heap.get?_push_size _ rfl,rfl,rfl⟩,ht.push _⟩,fun d hd=>?_,fun i h st=>?_,fun i h h' o nw st e1 e2 kp N sub=>?_,fun i target u s' Q E st q=>letGo_tupleiter st.1 q,fun d hd=>?_⟩,fin⟩
   ·have Jh:vs[i]?=some u:=by simpa using hP
    have hi:i<vs.length:=(jN Jh).1
    replace hi:=(Eq.symm r.length)▸hi
    refine r.qu (iV hi) fun z z1 z2=>?_
    replace z1:=Jh▸z1;have cZ:=aH z1;clear z1;subst cZ
    exact ⟨_,iV hi,z2.mono (W.aP _ [])⟩
   ·rcases gn hd with rfl | hd
    ·exact Nat.lt_succ_self _
    ·refine aa (dU hd) ?_;exact Nat.lt_succ_of_lt jL
   ·refine ay st.1 fun o ho _=>?_;exact ⟨o,ho⟩
   ·refine ⟨?_,⟨_,(N _ (sub _ cg)).1,hc,nn,hd⟩⟩
    refine ay st.1 fun o' q rr=>?_
    replace q:=e1▸q;have dq:=aH q;clear q;subst dq;exact ⟨o,e2,rr⟩
   ·rcases gn hd with rfl | hd
    ·exact .inl rfl
    ·refine aa (dU hd) ?_;exact .inr (.inl ⟨_,cg⟩)
  |range k=>
   have dp:=aH e2;clear e2;subst dp
   obtain ⟨hk,ob,t,u,z,rfl,hr⟩:=ho
   have hm:=cD (fz:=T.fz) hl cg
   have ht:=hr s.heap (R.nw _ hm).1
   have hsm:Builtin.Range.small 0 (k:Int) 1=true:=uq hk
   have AW:Builtin.Range.rangeSize 0 (k:Int) 1=(k:Int):=by refine aa (rangeSize_one ..) ?_;split<;>omega
   have W1:=(LCg.range_walks (prog:=G.prog) (w:=G.w) (I:=s.heap.objs.size) hh 0 k).bound
   replace W1:=(Eq.symm (lh k 0))▸W1
   refine ⟨_,W.upd i [],_,_,_,_,W.aP i [],R.hide hl,⟨rfl,fun Q E q=>wpAny_pyIter_range ht hsm q,rfl,W1,fun i u hP=>?_,?_,fun d hd=>?_,fun i h st=>⟨_,st⟩,fun i h h' o nw st e1 e2 kp N sub=>?_,fun i target u s' Q E st q=>nE st q,fun d hd=> .inl (dU hd)⟩,fin⟩
   ·obtain ⟨hi,t',rfl⟩:=hP
    replace hi:=(lh ..)▸hi
    refine ⟨.int i,?_,t',by exact aa (Int.zero_add ..) rfl⟩
    refine aa (tX ..) (aa (if_pos hi ..) ?_)
    simp
   ·show IsRangeIter _ _ _ _ _
    refine aa (AW ..) (aa (lh ..) ?_)
    simpa using Heap.get?_push_size _ rfl
   ·refine aa (dU hd) ?_;exact Nat.lt_succ_self _
   ·have XA:h.get? s.heap.objs.size=some _:=st
    replace XA:=e1▸XA
    show h'.get? s.heap.objs.size=some _
    refine aa e2 ?_;exact XA
  |_=>exact zS e2
 |_=>exact zS e
end
noncomputable def qd(W:Wd)(fl:AF)(f:Flow):Prop:=match fl with
 | .next=>f= .next
 | .cont=>f= .cont
 | .brk=>f= .brk
 | .ret a=>∃v,f= .ret v/\VR W a v
noncomputable def SX(G:Gx)(n:Nat)(b:gf)(f:Xc)(st:Stmt):Prop:=∀(T:At) (W:Wd) (m:Str->Option Value) (σ:St) (s:Shared) (fl:AF) (aF:St) (Q:Flow->Shared->Prop) (E:Value->Shared->Prop),
 T.Ok G n b W->T.Rep G s.heap m W σ->f T.cx σ=some (fl,aF)->nx G T W aF (fun W g=>qd W fl g) Q s->wpAny (model G.prog G.w) T.A (exec st T.env) Q E s
noncomputable def BF(G:Gx)(n:Nat)(b:gf)(f:Xc)(yn:List Stmt):Prop:=∀(T:At) (W:Wd) (m:Str->Option Value) (σ:St) (s:Shared) (fl:AF) (aF:St) (Q:Flow->Shared->Prop) (E:Value->Shared->Prop),
 T.Ok G n b W->T.Rep G s.heap m W σ->f T.cx σ=some (fl,aF)->nx G T W aF (fun W g=>qd W fl g) Q s->wpAny (model G.prog G.w) T.A (execs yn T.env) Q E s
section
theorem GH:SX G n b II (.Pass pos):=by
 intro T W m σ s fl aF Q E ok R ev P
 refine eO ev fun b7 cw=>?_;clear ev;subst b7 cw
 refine aa (arm_exec_Pass ..) ?_
 exact wpAny_bind (wpAny_standAt (wpAny_pure (P W m s.heap s.toks _ (.refl _) R rfl)))
theorem GK:SX G n b IL (.Continue pos):=by
 intro T W m σ s fl aF Q E ok R ev P
 refine eO ev fun dC dk=>?_;clear ev;subst dC dk
 show wpAny _ _ (do standAt pos;pure .cont) Q E s
 exact wpAny_bind (wpAny_standAt (wpAny_pure (P W m s.heap s.toks _ (.refl _) R rfl)))
theorem GG:SX G n b IH (.Return none pos):=by
 intro T W m σ s fl aF Q E ok R ev P
 refine eO ev fun eD fG=>?_;clear ev;subst eD fG
 exact wpAny_Return_none (P W m s.heap s.toks _ (.refl _) R ⟨_,rfl,rfl⟩)
theorem Kr(hf:SE G n b f e):SX G n b (Ow f) (.Return (some e) pos):=by
 intro T W m σ s fl aF Q E ok R ev P
 refine af ev fun x aE e1 e2=>?_;clear ev
 refine eO e2 fun gF gg=>?_;clear e2;subst gF gg
 exact wpAny_Return_some (hf T W m σ s x _ _ E ok R e1 fun W₁ aq ar bp ag ak aK=>P W₁ m aq ar _ ag ak ⟨bp,rfl,aK⟩)
theorem xk(h:qo e=false)(t:Option Expr)(l:Nat)(env:Env):swapsWith e t l env=pure false:=by induction e using PySem.Expr.casesOn<;>first | rfl | exact zF h
theorem At.Ok.kind{T:At}(ok:T.Ok G n b W):T.env.scope.kind= .function:=by
 have env:=ok.env
 induction b with
 |fn sc=>refine env.MS fun _ h2 cn scope a kX cl h3 h4 h5 _ _=>?_;refine aa h2 (aa h3 ?_);exact h5
 |comp sc tL=>refine env.zg fun cn ba a kX gu scope cl C oC m₂ y av u h1 h2 h3 h4 h5 h6 _ _ _ _ _ _ _=>?_;clear env;refine aa h4 ?_;exact h6
theorem GJ{f:Ev}(he:qo e=false)(hf:SE G n b f e):SX G n b (IK f) (.Expr e pos):=by
 intro T W m σ s fl aF Q E ok R ev P
 refine af ev fun x aE e1 e2=>?_;clear ev
 refine eO e2 fun gR cW=>?_;clear e2;subst gR cW
 refine wpAny_Expr_any (hf T W m σ s x _ _ E ok R e1 fun W₁ aq ar bp ag ak aK=>P W₁ m aq ar _ ag ak rfl) ?_ (xk he none _ _)
 unfold interactive
 refine aa ok.kind ?_;rfl
theorem Kt(ht:mL tg=false)(hs:isStar tg=false)(hl:qo e=false)(hL:∀es p,tg≠ .List es p)(ha:SA G n b t tg)(hf:SE G n b f e):SX G n b (Kc t f) (.Assign [tg] e pos):=by
 intro T W m σ s fl aF Q E ok R ev P
 refine af ev fun x aE e1 e2=>?_;clear ev
 refine ab e2 fun aY e3 e4=>?_;clear e2
 cases e4
 have hw:swappedStores [tg] e T.env=pure none:=by
  unfold swappedStores
  induction tg using PySem.Expr.casesOn<;>first | rfl | exact absurd rfl (hL _ _) | exact zF ht
 refine wpAny_Assign_stores (hf T W m σ s x _ _ E ok R e1 fun W₁ aq ar bp ag ak aK=>?_) (xk hl (some tg) _ _) hw
 refine aa (jP hs ..) ?_
 show wpAny _ _ (assign tg T.env bp) _ _ _
 exact ha T W₁ m aE {s with heap:=aq,toks:=ar} x bp aF _ E (ok.mono ag) ak aK e3 fun ae m₂ aJ aG _ ax az _=>P ae m₂ aJ aG _ (ag.trans ax) az rfl
theorem t8(ht:zQ G n b t e)(hf:BF G n b f x)(hg:BF G n b g y):SX G n b (NM t f g) (.If e x y pos):=by
 intro T W m σ s fl aF Q E ok R ev P
 refine af ev fun c aE e1 e2=>?_;clear ev
 refine wpAny_If (ht T W m σ s c _ _ E ok R e1 fun W₁ aq ar bp ag ak aK=>?_)
 subst aK
 induction bp with
 |true=>exact hf T W₁ m _ _ fl aF _ E (ok.mono ag) ak e2 fun ae m₂ aJ aG ef ax az aV=>P ae m₂ aJ aG ef (ag.trans ax) az aV
 |false=>exact hg T W₁ m _ _ fl aF _ E (ok.mono ag) ak e2 fun ae m₂ aJ aG ef ax az aV=>P ae m₂ aJ aG ef (ag.trans ax) az aV
theorem Ks(hf:SE G n b f e)(hg:SE G n b g i):SX G n b (Oy f g) (.Delete [.Subscript e i p] pos):=by
 intro T W m σ s fl aF Q E ok R ev P
 refine af ev fun x aE e1 e2=>?_;clear ev
 refine af e2 fun y aY e3 e4=>?_;clear e2
 refine ab e4 fun fV e5 e6=>?_;clear e4
 refine eO e6 fun eY dQ=>?_;clear e6;subst eY dQ
 refine kC e5 fun mm e7 cZ=>?_;clear e5;subst cZ
 refine wpAny_Delete ?_
 show wpAny _ _ (do delete (.Subscript e i p) T.env;deleteEach [] T.env) _ _ _
 refine wpAny_bind (wpAny_delete_Subscript (hf T W m σ s x _ _ E ok R e1 fun W₁ aq ar bp ag ak aK=>?_))
 refine hg T W₁ m _ _ y _ _ E (ok.mono ag) ak e3 fun ae aJ aG ef ax az aV=>?_
 exact xQ (s:={s with heap:=aJ,toks:=aG}) az (aK.mono ax) aV e7 fun bu gT bq aQ _ bj cc _=>wpAny_deleteEach_nil (P bu gT bq aQ _ ((ag.trans ax).trans bj) cc rfl)
theorem lr:BF G n b n9 []:=by
 intro T W m σ s fl aF Q E ok R ev P
 refine eO ev fun dq dp=>?_;clear ev;subst dq dp
 exact wpAny_execs_nil (P W m s.heap s.toks _ (.refl _) R rfl)
theorem hG{st:Stmt}(hf:SX G n b f st)(hr:BF G n b r rest):BF G n b (jc f r) (st::rest):=by
 intro T W m σ s fl aF Q E ok R ev P
 refine af ev fun g aE e1 e2=>?_;clear ev
 refine wpAny_execs_cons (hf T W m σ s g _ _ E ok R e1 fun W₁ m₁ aq ar bp ag ak aK=>?_)
 induction g with
 |next=>
  subst aK
  exact hr T W₁ m₁ aE {s with heap:=aq,toks:=ar} fl aF _ E (ok.mono ag) ak e2 fun ae m₂ aJ aG ef ax az aV=>P ae m₂ aJ aG ef (ag.trans ax) az aV
 |ret a=>
  refine eO e2 fun fQ eX=>?_;clear e2;subst fQ eX
  refine ay aK fun v fO r=>?_;clear aK;subst fO
  exact P W₁ m₁ aq ar _ ag ak ⟨v,rfl,r⟩
 |cont=>refine eO e2 fun eW gh=>?_;clear e2;subst eW gh;subst aK;exact P W₁ m₁ aq ar _ ag ak rfl
 |brk=>refine eO e2 fun jm mD=>?_;clear e2;subst jm mD;subst aK;exact P W₁ m₁ aq ar _ ag ak rfl
theorem lX(h:bT e=false)(env:Env)(x:Value):foldedSetIterable e env x=pure x:=by induction e using PySem.Expr.casesOn<;>first | rfl | exact zF h
theorem Rep.adl{wr:List Addr}(R:Rep G h₀ L fz h m W σ)(hk:∀b o,b ∉ wr->h.get? b=some o->h'.get? b=some o)(hL:L ∉ wr)(hI:∀b∈wr,h₀.get? b=none)(off:∀p∈W.news fz,p.1 ∉ wr):Rep G h₀ L fz h' m W σ:=
 R.heap ⟨R.fr.ns.at' fun o e=>hk _ o hL e,fun b o e=>hk b o (fun hb=>by replace e:=(hI b hb)▸e;cases e) (R.fr.keep b o e),R.fr.above⟩ fun p hp=>⟨hk _ _ (off p hp) (R.nw p hp).1,(R.nw p hp).2⟩
noncomputable abbrev FP(G:Gx)(T:At)(s:Shared)(J:Nat->Wd->St->Prop)(i:Nat)(qj:Shared):Prop:=∃W' m' h' tK aF,qj={s with heap:=h',toks:=tK}/\T.Rep G h' m' W' aF/\J (i+1) W' aF
noncomputable abbrev TP(G:Gx)(T:At)(s:Shared)(J:Nat->Wd->St->Prop)(i:Nat)(RR:Result->Shared->Prop)(f:Flow)(qj:Shared):Prop:=match f with
 | .next | .cont=>FP G T s J i qj
 | .brk=>RR (.ok .next) qj
 | .ret v=>RR (.ok (.ret v)) qj
inductive FQ(G:Gx)(T:At)(s:Shared)(k:Nat)(wr:List Addr)(Sp:Nat->Heap->Prop)(J:Nat->Wd->St->Prop):Nat->Shared->Prop
 |mk (i:Nat) (W:Wd) (m:Str->Option Value) (h:Heap) (tk:Nat) (σ:St) (hi:i<=k) (R:T.Rep G h m W σ) (off:∀p∈W.news T.fz,p.1 ∉ wr) (st:Sp i h) (j:J i W σ):FQ G T s k wr Sp J (k+1-i) {s with heap:=h,toks:=tk}
theorem yI{T:At}{fp wr:List Addr}
  (KT:KTurns G.prog G.w T.A target I fp wr k Pv Md Sp) (R₀:T.Rep G s.heap m₀ W₀ σ₀) (NZ:wr.Nodup) (W8:∀b∈wr,T.h₀.get? b=none) (Ge:T.L ∉ wr) (xe:∀p∈W₀.news T.fz,p.1 ∉ wr)
  (N6:∀b∈fp,b∈wr\/(∃o,(b,o)∈T.fz)\/∃o,T.h₀.get? b=some o) (Er:Sp 0 s.heap) (io:∀i h,Sp i h->∃own:List (Addr×Obj),own.map (·.1)=wr/\∀p∈own,h.get? p.1=some p.2) (J:Nat->Wd->St->Prop) (j0:J 0 W₀ σ₀)
  (turn:∀i v W m σ h tk own,own.map (·.1)=wr->i<k->Pv i v h->J i W σ->(T.aD own).Rep G h m W σ->
   wpAny (model G.prog G.w) T.A (assign target T.env v) (fun _ jS=>wpAny (model G.prog G.w) T.A (execs body T.env) (TP G (T.aD own) s J i RR) (notedBy (model G.prog G.w) T.A T.env fun e s'=>RR (.error e) s') jS) (notedBy (model G.prog G.w) T.A T.env fun e s'=>RR (.error e) s') {s with heap:=h,toks:=tk})
  (done:∀W m σ h tk,T.Rep G h m W σ->J k W σ->RR (.ok .next) {s with heap:=h,toks:=tk}):codeAny (model G.prog G.w) T.A (.forLoop target (.ref I) body [] T.env) RR s:=by
 refine codeAny_forLoop_any (FQ G T s k wr Sp J) ?_ (k+1) (.mk 0 W₀ m₀ s.heap s.toks σ₀ (Nat.zero_le _) R₀ xe Er j0)
 intro q s' hq
 induction hq with
 |mk i W m h tk σ hi R off st j=>
 have keep:∀{aq:Heap},(∀b o,b ∉ wr->h.get? b=some o->aq.get? b=some o)->T.Rep G aq m W σ:=fun hk=>R.adl hk Ge W8 off
 by_cases jL:i<k
 ·refine KT.item i _ _ _ jL st fun v aq ar md q0=>KT.go i v _ _ _ md fun aJ hP IS UZ=>?_
  have az:=keep fun b o hb e=>UZ b o hb (q0 b o hb e)
  refine ay (io _ _ IS) fun own UX lO=>?_
  have inw:∀p∈own,p.1∈wr:=fun p hp=>UX▸List.mem_map_of_mem hp
  have Rb:(T.aD own).Rep G aJ m W σ:=az.pP (l:=own) az.fr (fun p hp=>by
   rcases List.mem_append.mp hp with hp | hp
   ·exact ⟨lO p hp,fun e=>Ge (e▸inw p hp),W8 _ (inw p hp)⟩
   ·exact az.nw p hp) (fun p hp q hq e=>off p hp (e▸inw q hq)) (UX▸NZ)
  have again:∀{qj},FP G (T.aD own) s J i qj->∃mn,mn<k+1-i/\FQ G T s k wr Sp J mn qj:=fun g=>by
   refine adG g fun W' m' h' tK aF q R' j'=>?_;clear g;subst q
   refine fK (R'.Be (l:=own)) fun fr _ N=>?_
   refine ⟨k+1-(i+1),Nat.sub_lt_sub_left (Nat.lt_succ_of_lt jL) (Nat.lt_succ_self i), .mk (i+1) W' m' h' tK aF jL (R'.kg (l:=own)) (fun p hp hw=>?_) (KT.frame _ _ _ IS fun b hb o e=>?_) j'⟩
   ·replace hw:=(Eq.symm UX)▸hw
    refine ay (nS hw) fun q hq e=>?_
    exact fr p hp q hq e.symm
   ·rcases N6 b hb with hw | ⟨o',hb⟩ | ⟨o',hb⟩
    ·replace hw:=(Eq.symm UX)▸hw
     refine ay (nS hw) fun q hq e2=>?_
     replace e:=(Eq.symm e2)▸e;replace e:=(lO q hq)▸e
     exact e2▸aH e▸(N _ (sJ _ hq)).1
    ·replace e:=((az.nw _ (iv hb)).1)▸e;exact aH e▸((R'.kg (l:=own)).nw _ (iv hb)).1
    ·replace e:=(az.fr.keep _ _ hb)▸e;exact aH e▸R'.fr.keep _ _ hb
  refine wpAny_mono (turn i v W m σ aJ ar own UX jL hP j Rb) (fun _ jS g=>wpAny_mono g (fun f qj g=>?_) fun _ _ e=>e) fun _ _ e=>e
  induction f with
  |next=>exact again g
  |cont=>exact again g
  |brk=>exact g
  |ret v=>exact g
 ·obtain rfl:i=k:=Nat.le_antisymm hi (Nat.not_lt.mp jL)
  exact KT.done _ _ _ st fun aq ar q0=>wpAny_execs_nil (done W m σ aq ar (keep q0) j)
theorem own_one{own:List (Addr×Obj)}(e:own.map (·.1)=[I]):∃o,own=[(I,o)]:=by
 induction own using iM with
 |nil=>exact zL e
 |cons p r=>
  injection e with e1 e2
  have e2:=List.map_eq_nil_iff.mp e2
  subst e1 e2
  exact ⟨p.2,rfl⟩
theorem xq{T:At}{I:Addr}
  (KT:KTurns G.prog G.w T.A target I fp [I] k Pv Md Sp) (R₀:T.Rep G s.heap m₀ W₀ σ₀) (W8:T.h₀.get? I=none) (Ge:T.L≠I) (xe:∀p∈W₀.news T.fz,p.1≠I)
  (N6:∀b∈fp,b=I\/(∃o,(b,o)∈T.fz)\/∃o,T.h₀.get? b=some o) (Er:Sp 0 s.heap) (io:∀i h,Sp i h->∃o,h.get? I=some o) (J:Nat->Wd->St->Prop) (j0:J 0 W₀ σ₀)
  (turn:∀i v W m σ h tk oI,i<k->Pv i v h->J i W σ->(T.aD [(I,oI)]).Rep G h m W σ->
   wpAny (model G.prog G.w) T.A (assign target T.env v) (fun _ jS=>wpAny (model G.prog G.w) T.A (execs body T.env) (TP G (T.aD [(I,oI)]) s J i RR) (notedBy (model G.prog G.w) T.A T.env fun e s'=>RR (.error e) s') jS) (notedBy (model G.prog G.w) T.A T.env fun e s'=>RR (.error e) s') {s with heap:=h,toks:=tk})
  (done:∀W m σ h tk,T.Rep G h m W σ->J k W σ->RR (.ok .next) {s with heap:=h,toks:=tk}):codeAny (model G.prog G.w) T.A (.forLoop target (.ref I) body [] T.env) RR s:=by
 refine yI (wr:=[I]) KT R₀ (by simp) (fun b hb=>by rw [dU hb];exact W8) (fun h=>Ge (dU h)) (fun p hp h=>xe p hp (dU h)) (fun b hb=>(N6 b hb).imp_left List.mem_singleton.mpr) Er (fun i h q=>(io i h q).elim fun o e=>⟨[(I,o)],rfl,fun p hp=>by rw [dU hp];exact e⟩) J j0 (fun i v W m σ h tk own e jL hP hj R=>?_) done
 refine aU (own_one e) fun oI q=>?_;clear e;subst q
 exact turn i v W m σ h tk oI jL hP hj R
theorem CH(gk:qi G){t:As}(sT:bT it=false)(ha:SA G n b t tg)(hf:SE G n b f it)(hb:BF G n b body bs):SX G n b (Ox G.P t f body) (.For tg it bs [] pos):=by
 intro T W m σ s fl aF Q E ok R ev P
 refine af ev fun x aE e1 e2=>?_;clear ev
 refine ab e2 fun xs e3 e4=>?_;clear e2
 refine au e4 fun hs e5=>?_;clear e4
 have e6:∃Vn dO,turns t body T.cx xs (aB aE (hide aE.mem x))=some (Vn,dO)/\∃mm,iK aE.mem dO.mem x=some mm/\fl=Vn/\aF=aB dO mm:=by
  generalize hc:T.cx.comp=bZ;induction bZ with
  |some z=>replace e5:=hc▸e5;exact zS e5
  |none=>
   replace e5:=hc▸e5
   refine af e5 fun Vn dO g1 g2=>?_;clear e5
   refine ab g2 fun mm g3 g4=>?_;clear g2
   cases g4
   exact ⟨fl,dO,g1,mm,g3,rfl,rfl⟩
 obtain ⟨Vn,dO,e7,mm,e8,rfl,rfl⟩:=e6
 refine wpAny_For (hf T W m σ s x _ _ E ok R e1 fun W₁ aq ar bp ag ak aK=>?_) (lX sT T.env)
 refine SrcR.out (oq (s:={s with heap:=aq,toks:=ar}) gk (ok.mono ag) ak aK e3) fun l ae oI fp P' Sp ax az S fin=>?_
 refine S.it _ _ ?_
 have abL:∀{p:Addr×Obj},p∈ae.news (l++T.fz)->p.1≠aq.objs.size:=fun hp=>Nat.ne_of_lt (Heap.lt_size (az.nw _ hp).1)
 have lB:=(ok.mono (ag.trans ax)).aD l
 refine xq (T:=T.aD l) (s:={s with heap:=aq.push oI,toks:=ar}) (KTurns.ofWalks S.walks fun i v s Q E st q=>S.go i tg v s Q E st q)
  (az.heap (az.fr.push oI) fun p hp=>⟨Heap.get?_push_of_some _ (az.nw p hp).1,(az.nw p hp).2⟩) (next_is_new ak.fr) (Nat.ne_of_lt ak.fr.ns.lt) (fun p hp=>abL hp)
  (fun b hb=>(S.N6 b hb).imp_right (Or.imp_left fun ⟨o,h⟩=>⟨o,sJ _ h⟩)) S.ON S.io
  (fun i W' mv=>ae.le W'/\turns t body T.cx (xs.drop i) mv=some (fl,dO)) ⟨.refl _,by refine aa List.drop_zero ?_;exact e7⟩ ?_ ?_
 ·rintro i u W' m' mv aJ aG oJ jL hP ⟨jZ,et⟩ Rb
  have vj:xs.drop i=xs[i]::xs.drop (i+1):=List.drop_eq_getElem_cons jL
  replace et:=vj▸et
  refine ab (show ob (t xs[i] T.cx mv) (fun σ=>cj (body T.cx σ) (yj (turns t body T.cx (xs.drop (i+1)))))=some (fl,dO) from et) fun WC g1 g2=>?_
  refine af g2 fun flb Gm g3 g4=>?_;clear g2
  refine ay (S.val i u hP) fun a ga hu=>?_
  have UO:xs[i]=a:=by replace ga:=(iV jL)▸ga;exact aH ga
  have Pl:=(lB.mono jZ).aD [(aq.objs.size,oJ)]
  refine ha ((T.aD l).aD [(aq.objs.size,oJ)]) W' m' mv {s with heap:=aJ,toks:=aG} xs[i] u WC _ _ Pl Rb (by refine aa UO ?_;exact hu.mono jZ) g1 fun bu gT bq aQ _ bj cc _=>?_
  refine hb ((T.aD l).aD [(aq.objs.size,oJ)]) bu gT WC {s with heap:=bq,toks:=aQ} flb Gm _ _ (Pl.mono bj) cc g3 fun ew gm cQ cz Gq js gA ek=>?_
  have AJ:ae.le ew:=(jZ.trans bj).trans js
  have mh:(T.aD l).Rep G cQ gm ew Gm:=gA.kg (l:=[(aq.objs.size,oJ)])
  induction flb with
  |next=>subst ek;exact ⟨ew,gm,cQ,cz,Gm,rfl,gA,AJ,g4⟩
  |cont=>subst ek;exact ⟨ew,gm,cQ,cz,Gm,rfl,gA,AJ,g4⟩
  |brk=>
   subst ek
   refine eO g4 fun oO su=>?_;clear g4;clear e7 e5 et;subst oO su
   refine ay (fin ew _ cQ gm mm AJ mh e8) fun i5 wu gJ=>?_
   exact P i5 gm cQ cz _ (((ag.trans ax).trans AJ).trans wu) gJ rfl
  |ret a=>
   refine ay ek fun v oN r=>?_;clear ek;subst oN
   refine eO g4 fun mC sk=>?_;clear g4;clear e7 e5 et;subst mC sk
   refine ay (fin ew _ cQ gm mm AJ mh e8) fun i5 wu gJ=>?_
   exact P i5 gm cQ cz _ (((ag.trans ax).trans AJ).trans wu) gJ ⟨v,rfl,r.mono wu⟩
 ·rintro W' m' mv aJ aG Ra ⟨jZ,et⟩
  replace et:=List.drop_length▸et
  refine eO et fun oK oH=>?_;clear et;clear e7 e5;subst oK oH
  refine ay (fin W' _ aJ m' mm jZ Ra e8) fun i5 wu gJ=>?_
  exact P i5 m' aJ aG _ (((ag.trans ax).trans jZ).trans wu) gJ rfl
end
theorem kP(env:Env):∀(names:List (Str×NameKind)) (acc:List (Str×Addr)),(∀p∈names,p.2= .free->(env.cells.lookup p.1).isSome=true)->(∀q∈acc,env.cells.lookup q.1=some q.2)->
  ∃cl,(forIn names acc fun (x:Str×NameKind) (cs:List (Str×Addr))=>if (x.2 == .free)=true then do let a <-cellOf env x.1;pure (ForInStep.yield ((x.1,a)::cs)) else pure (ForInStep.yield cs))=(pure cl:Sem (List (Str×Addr)))/\
   (∀q∈cl,env.cells.lookup q.1=some q.2)/\(∀q∈acc,q.1∈cl.map (·.1))/\∀p∈names,p.2= .free->p.1∈cl.map (·.1)
 | [],acc,_,ha=>⟨acc,by exact aa List.forIn_nil rfl,ha,fun q hq=>List.mem_map_of_mem hq,fun p hp=>zM hp⟩
 |(y,k)::r,acc,h,ha=>by
  by_cases hk:k= .free
  ·subst hk
   refine aU (Option.isSome_iff_exists.mp (h (y, .free) cg rfl)) fun c hc=>?_
   refine jC (kP env r ((y,c)::acc) (fun p hp=>h p (fw _ hp)) (fun q hq=>by
    rcases gn hq with rfl | hq
    ·exact hc
    ·exact ha q hq)) fun cl h1 h2 h3 h4=>?_
   have iP:cellOf env y=pure c:=by unfold cellOf;exact aa hc rfl
   refine ⟨cl,?_,h2,fun q hq=>h3 q (fw _ hq),fun p hp W0=>?_⟩
   ·refine aa (List.forIn_cons ..) ?_
    show (do let s <-(do let a <-cellOf env y;pure (ForInStep.yield ((y,a)::acc)));_)=_
    refine aa iP ?_
    exact h1
   ·rcases gn hp with rfl | hp
    ·exact h3 (y,c) cg
    ·exact h4 p hp W0
  ·refine jC (kP env r acc (fun p hp=>h p (fw _ hp)) ha) fun cl h1 h2 h3 h4=>?_
   refine ⟨cl,?_,h2,h3,fun p hp W0=>?_⟩
   ·refine aa (List.forIn_cons ..) ?_
    have:(k==NameKind.free)=false:=beq_eq_false_iff_ne.mpr hk
    dsimp only
    refine aa this ?_
    exact h1
   ·rcases gn hp with rfl | hp
    ·exact absurd W0 hk
    ·exact h4 p hp W0
theorem qm{cl:List (Str×Addr)}{f:Str->Option Addr}(h:∀q∈cl,f q.1=some q.2)(hy:y∈cl.map (·.1)):cl.lookup y=f y:=by
 induction cl with
 |nil=>simp at hy
 |cons q r ih=>
  obtain ⟨z,c⟩:=q
  refine aa List.lookup_cons ?_
  by_cases e:y=z
  ·subst e;simp;exact (h (y,c) cg).symm
  ·have:(y==z)=false:=beq_eq_false_iff_ne.mpr e
   refine aa this ?_
   rw [List.map_cons,List.mem_cons] at hy
   exact ih (fun q hq=>h q (fw _ hq)) (hy.resolve_left e)
theorem xT{scope:Scope}(h:∀p∈scope.names,p.2= .free->(env.cells.lookup p.1).isSome=true):∃cl,closureFor scope env=pure cl/\∀p∈scope.names,p.2= .free->cl.lookup p.1=env.cells.lookup p.1:=by
 refine jC (kP env scope.names [] h (fun _ hq=>zM hq)) fun cl h1 h2 _ h4=>?_
 refine ⟨cl,?_,fun p hp hf=>qm (f:=fun y=>env.cells.lookup y) h2 (h4 p hp hf)⟩
 unfold closureFor
 show (forIn scope.names [] _ >>=fun cs=>pure cs)=_
 first
 |(refine aa h1 ?_;rfl)
 |(refine Eq.trans (congrArg (fun t=>t >>=fun cs=>pure cs) ?_) (congrArg (fun t=>t >>=fun cs=>pure cs) h1) |>.trans rfl;congr 1)
theorem iy:∀{l:List (Str×NameKind)},iz all tL l=true->∀p∈l,p.2≠ .cell/\(p.2= .local->all.lookup p.1=some .local)/\(p.2= .free->tL.lookup p.1=some .cell)
 | [],_,_,hp=>zM hp
 |(y,k)::r,h,p,hp=>by
  unfold iz at h
  induction k with
  | «local»=>
   dsimp only at h
   split at h
   ·rename_i q
    replace q:=(cM ..)▸q
    rcases gn hp with rfl | hp
    ·exact ⟨fun e=>(nomatch e),fun _=>q,fun e=>nomatch e⟩
    ·exact iy h p hp
   ·exact zT h
  |free=>
   dsimp only at h
   split at h
   ·rename_i q
    replace q:=(cM ..)▸q
    rcases gn hp with rfl | hp
    ·exact ⟨fun e=>(nomatch e),fun e=>(nomatch e),fun _=>q⟩
    ·exact iy h p hp
   ·exact zT h
  |cell=>exact zT h
  |_=>
   rcases gn hp with rfl | hp
   ·exact ⟨fun e=>(nomatch e),fun e=>(nomatch e),fun e=>nomatch e⟩
   ·exact iy h p hp
section
open LCg LCt
noncomputable def At.item(T:At)(l:List (Addr×Obj))(I C D:Addr)(oI oC oD:Obj)(env:Env)(x:Nat)(a:AV):At:=
 {((T.aD l).aD [(I,oI),(C,oC),(D,oD)]) with env:=env,cx:=⟨T.cx.cells,some (x,a)⟩}
noncomputable def ND(G:Gx)(T:At)(l:List (Addr×Obj))(m:Str->Option Value)(ae:Wd)(dO:St)(as:List AV)(ys:List Value)(news:List (Addr×Obj)):Prop:=
 ∃W' h',news=W'.news (l++T.fz)/\(T.aD l).Rep G h' m W' dO/\ae.le W'/\bE W' as ys
theorem pw{T:At}
  (ok:T.Ok G n (.fn sc) W) (le:W.le W') (hk:scope.kind= .function) (dI:∀p∈scope.names,p.2= .free->cl.lookup p.1=T.env.cells.lookup p.1)
  (R:(T.aD l).Rep G h m W' σ) (hN:NsObj oC m₂) (hm:m₂ x=some v) (hv:VR W' a v) (N:News T.h₀ T.L h ((I,oI)::(C,oC)::(D,oD)::W'.news (l++T.fz))) (off:Off3 I C D (W'.news (l++T.fz))) (ne:((@Ne Nat I C)/\(@Ne Nat I D)/\(@Ne Nat C D))):
  (T.item l I C D oI oC oD (compEnvC scope cl C T.env) (code x) a).Ok G n (.comp scope.names sc) W'/\(T.item l I C D oI oC oD (compEnvC scope cl C T.env) (code x) a).Rep G h m W' σ:=by
 refine ⟨⟨ok.gL,?_⟩,?_⟩
 ·refine ok.env.MS fun hc he cn ba fa kX gu e0 qe W5 ck call=>?_;subst qe
  refine ⟨cn,ba,fa,kX,gu,scope,cl,C,oC,m₂,x,a,v,e0,rfl,W5,by show compEnvC scope cl C T.env=compEnvC scope cl C T.aN;exact aa he rfl,rfl,hk,fun y hy i e=>?_,call,?_,hN,hm,hv,rfl⟩
  ·refine ay (ck y i e) fun c g1 g2=>?_
   refine ⟨c,ai le.bg g1,?_⟩
   have hy':(y,NameKind.free)∈scope.names:=by
    clear dI
    generalize scope.names=z at hy
    induction z with
    |nil=>exact zS hy
    |cons q r ih=>
     obtain ⟨q1,q2⟩:=q
     rw [List.lookup_cons] at hy
     by_cases eq:y=q1
     ·subst eq;simp at hy;subst hy;exact cg
     ·have:(y==q1)=false:=beq_eq_false_iff_ne.mpr eq
      replace hy:=this▸hy
      exact fw _ (ih hy)
   refine aa (dI _ hy' rfl) (aa he (aa e0 ?_))
   exact g2
  ·exact fw _ cg
 ·have Yo:=off.mem
  refine R.pP (l:=[(I,oI),(C,oC),(D,oD)]) R.fr N (fun p hp q hq=>?_) ?_
  ·have:=Yo p hp
   rcases gn hq with rfl | hq
   ·exact this.1
   ·rcases gn hq with rfl | hq
    ·exact this.2.1
    ·refine aa (dU hq) ?_;exact this.2.2
  ·simp only [List.map_cons,List.map_nil,List.nodup_cons,List.mem_cons,List.not_mem_nil,or_false,not_or]
   exact ⟨⟨ne.1,ne.2.1⟩,⟨ne.2.2,by simp⟩⟩
theorem yL{T:At}{xs:List AV}
  (ok:T.Ok G n (.fn sc) W) (le:W.le ae) (hk:scope.kind= .function) (dI:∀p∈scope.names,p.2= .free->cl.lookup p.1=T.env.cells.lookup p.1) (hv:∀i u,P i u->∃a,xs[i]?=some a/\VR ae a u) (hf:SE G n (.comp scope.names sc) f elt):
  ∀(k i:Nat) (ys:List Value) (pre as:List AV) (W':Wd) (σ:St) (h:Heap),k+i=xs.length->(T.aD l).Rep G h m W' σ->ae.le W'->bE W' pre ys->jz none f (code x) T.cx (xs.drop i) σ=some (as,dO)->
   CompRest G.prog G.w T.A T.h₀ T.L m T.env elt x scope cl s (fun nw=>∀p∈l,p∈nw) P (ND G T l m ae dO (pre++as)) k i ys (W'.news (l++T.fz))
 | 0,i,ys,pre,as,W',σ,h,hi,R,jZ,r,e=>by
  have:i=xs.length:=by omega
  replace e:=this▸e;replace e:=List.drop_length▸e
  refine eO e fun b7 cw=>?_;clear e;subst b7 cw
  refine aa (List.append_nil ..) ?_
  exact CompRest.zero ⟨W',h,rfl,R,jZ,r⟩
 |k+1,i,ys,pre,as,W',σ,h,hi,R,jZ,r,e=>by
  have jL:i<xs.length:=by omega
  have vj:xs.drop i=xs[i]::xs.drop (i+1):=List.drop_eq_getElem_cons jL
  replace e:=vj▸e
  refine af (show cj (f ⟨T.cx.cells,some (code x,xs[i])⟩ σ) (fun a σ=>cj (jz none f (code x) T.cx (xs.drop (i+1)) σ) fun as σ=>some (a::as,σ))=some (as,dO) from e) fun y aE e1 e2=>?_
  refine af e2 fun Oa aY e3 e4=>?_;clear e2
  refine eO e4 fun dC dk=>?_;clear e4;clear e;subst dC dk
  refine CompRest.succ fun v I oI C oC D m₂ h' tk E' hP hN hm F N off ne=>?_
  refine ay (hv i v hP) fun a ga hu=>?_
  have UO:xs[i]=a:=by replace ga:=(iV jL)▸ga;exact aH ga
  have R0:(T.aD l).Rep G h' m W' σ:=R.heap F fun p hp=>N p (fw _ (fw _ (fw _ hp)))
  refine aM (pw (n:=n) (a:=xs[i]) ok (le.trans jZ) hk dI R0 hN hm (by refine aa UO ?_;exact hu.mono jZ) N off ne) fun qf R'=>?_
  refine hf _ W' m σ {s with heap:=h',toks:=tk} y aE _ E' qf R' e1 fun bu bq aQ kY bj cc eC=>?_
  refine fK (cc.Be (l:=[(I,oI),(C,oC),(D,LCg.lst ys)])) fun fr _ N3=>?_
  have gA:(T.aD l).Rep G bq m bu aE:=cc.kg (l:=[(I,oI),(C,oC),(D,LCg.lst ys)])
  refine ⟨bq,aQ,bu.news (l++T.fz),rfl,cc.fr,N3,Off3.of fun p hp=>⟨fr p hp _ cg,fr p hp _ (fw _ cg),fr p hp _ (fw _ (fw _ cg))⟩,fun p hp=>iv (W:=bu) (sJ _ hp),?_⟩
  have:=yL (s:=s) ok le hk dI hv hf k (i+1) (ys ++ [kY]) (pre ++ [y]) Oa bu aE bq (by omega) gA (jZ.trans bj) ((r.mono bj).snoc eC) e3
  replace this:=(eP ..)▸this
  exact this
theorem v5(c:Ts)(f:Ev)(x:Nat)(cx:Cx)(v:AV)(r:List AV)(σ:St):jz (some c) f x cx (v::r) σ=cj (c ⟨cx.cells,some (x,v)⟩ σ) (fun t σ=>Bool.rec (motive:=fun _=>R (List AV)) (jz (some c) f x cx r σ) (cj (f ⟨cx.cells,some (x,v)⟩ σ) fun a σ=>cj (jz (some c) f x cx r σ) fun as σ=>some (a::as,σ)) t):=rfl
theorem lG{T:At}{xs:List AV}
  (ok:T.Ok G n (.fn sc) W) (le:W.le ae) (hk:scope.kind= .function) (dI:∀p∈scope.names,p.2= .free->cl.lookup p.1=T.env.cells.lookup p.1) (hv:∀i u,P i u->∃a,xs[i]?=some a/\VR ae a u) (hf:SE G n (.comp scope.names sc) f elt) (hc:zQ G n (.comp scope.names sc) c ct):
  ∀(k i:Nat) (ys:List Value) (pre as:List AV) (W':Wd) (σ:St) (h:Heap),k+i=xs.length->(T.aD l).Rep G h m W' σ->ae.le W'->bE W' pre ys->jz (some c) f (code x) T.cx (xs.drop i) σ=some (as,dO)->
   CompRestT G.prog G.w T.A T.h₀ T.L m T.env ct elt x scope cl s (fun nw=>∀p∈l,p∈nw) P (ND G T l m ae dO (pre++as)) k i ys (W'.news (l++T.fz))
 | 0,i,ys,pre,as,W',σ,h,hi,R,jZ,r,e=>by
  have:i=xs.length:=by omega
  replace e:=this▸e;replace e:=List.drop_length▸e
  refine eO e fun eD fG=>?_;clear e;subst eD fG
  refine aa (List.append_nil ..) ?_
  exact CompRestT.zero ⟨W',h,rfl,R,jZ,r⟩
 |k+1,i,ys,pre,as,W',σ,h,hi,R,jZ,r,e=>by
  have jL:i<xs.length:=by omega
  have vj:xs.drop i=xs[i]::xs.drop (i+1):=List.drop_eq_getElem_cons jL
  replace e:=vj▸e
  replace e:=(v5 ..)▸e
  refine af e fun t σ₀ e0 e5=>?_;clear e
  refine CompRestT.succ fun v I oI C oC D m₂ h' tk E' hP hN hm F N off ne=>?_
  refine ay (hv i v hP) fun a ga hu=>?_
  have UO:xs[i]=a:=by replace ga:=(iV jL)▸ga;exact aH ga
  have R0:(T.aD l).Rep G h' m W' σ:=R.heap F fun p hp=>N p (fw _ (fw _ (fw _ hp)))
  refine aM (pw (n:=n) (a:=xs[i]) ok (le.trans jZ) hk dI R0 hN hm (by refine aa UO ?_;exact hu.mono jZ) N off ne) fun qf R'=>?_
  refine hc _ W' m σ {s with heap:=h',toks:=tk} t σ₀ _ E' qf R' e0 fun bu bq aQ kY bj cc eC=>?_
  subst eC
  induction kY with
  |false=>
   simp only [Bool.false_eq_true,if_false]
   refine fK (cc.Be (l:=[(I,oI),(C,oC),(D,LCg.lst ys)])) fun fr _ N3=>?_
   have gA:(T.aD l).Rep G bq m bu σ₀:=cc.kg (l:=[(I,oI),(C,oC),(D,LCg.lst ys)])
   refine ⟨bq,aQ,bu.news (l++T.fz),rfl,cc.fr,N3,Off3.of fun p hp=>⟨fr p hp _ cg,fr p hp _ (fw _ cg),fr p hp _ (fw _ (fw _ cg))⟩,fun p hp=>iv (W:=bu) (sJ _ hp),?_⟩
   exact lG (s:=s) ok le hk dI hv hf hc k (i+1) ys pre as bu σ₀ bq (by omega) gA (jZ.trans bj) (r.mono bj) e5
  |true=>
   simp only [if_true]
   refine af e5 fun y aE e1 e2=>?_;clear e5
   refine af e2 fun Oa aY e3 e4=>?_;clear e2
   refine eO e4 fun gF gg=>?_;clear e4;subst gF gg
   refine hf _ bu m σ₀ {s with heap:=bq,toks:=aQ} y aE _ E' (qf.mono bj) cc e1 fun ew cQ cz Gq js gA ek=>?_
   refine fK (gA.Be (l:=[(I,oI),(C,oC),(D,LCg.lst ys)])) fun fr _ N3=>?_
   have mh:(T.aD l).Rep G cQ m ew aE:=gA.kg (l:=[(I,oI),(C,oC),(D,LCg.lst ys)])
   refine ⟨cQ,cz,ew.news (l++T.fz),rfl,gA.fr,N3,Off3.of fun p hp=>⟨fr p hp _ cg,fr p hp _ (fw _ cg),fr p hp _ (fw _ (fw _ cg))⟩,fun p hp=>iv (W:=ew) (sJ _ hp),?_⟩
   have:=lG (s:=s) ok le hk dI hv hf hc k (i+1) (ys ++ [Gq]) (pre ++ [y]) Oa ew aE cQ (by omega) mh ((jZ.trans bj).trans js) ((r.mono (bj.trans js)).snoc ek) e3
   replace this:=(eP ..)▸this
   exact this
theorem sM(h:xu scope (code x) (.fn sc)=true):scope.kind= .function/\scope.names.lookup x=some .local/\(∀y∈scope.names,y.2≠ .cell)/\(∀y∈scope.names,y.2= .local->scope.names.lookup y.1=some .local)/\∀y∈scope.names,y.2= .free->sc.lookup y.1=some .cell:=by
 have h':(Ek scope.kind&&iz scope.names sc scope.names&&(match iN (code x) scope.names with | some .local=>true | _=>false))=true:=h
 replace h':=(Bool.and_eq_true ..)▸h';replace h':=(Bool.and_eq_true ..)▸h'
 refine aM h' fun gR h3=>?_;clear h';obtain ⟨h1,h2⟩:=gR
 replace h3:=(cM ..)▸h3
 have k:=iy h2
 refine ⟨?_,?_,fun y hy=>(k y hy).1,fun y hy=>(k y hy).2.1,fun y hy=>(k y hy).2.2⟩
 ·revert h1;unfold Ek;cases scope.kind<;>simp
 ·split at h3
  ·assumption
  ·exact zT h3
theorem pj{T:At}(ok:T.Ok G n (.fn sc) W)(lP:∀y∈scope.names,y.2= .free->sc.lookup y.1=some .cell):∃cl,closureFor scope T.env=pure cl/\∀p∈scope.names,p.2= .free->cl.lookup p.1=T.env.cells.lookup p.1:=by
 refine ok.env.MS fun hc he cn ba fa kX gu e0 qe W5 ck call=>?_;subst qe
 refine xT fun p hp hf=>?_
 refine aa he (aa e0 ?_)
 exact call _ (lP p hp hf)
theorem Ea{aE dO:St}{s:Shared}(ok:T.Ok G n b W)(le:W.le ae)
  (e8:iK aE.mem (aB dO (dO.mem.push (.list as))).mem x=some mm)
  (fin:∀W' aF h' m' xp,ae.le W'->(T.aD l).Rep G h' m' W' aF->iK aE.mem aF.mem x=some xp->∃jR,W'.le jR/\T.Rep G h' m' jR (aB aF xp))
  (P:∀W' h' tk v,ae.le W'->T.Rep G h' m W' (aB (aB dO (dO.mem.push (.list as))) mm)->VR W' (.o dO.mem.n) v->Q v {s with heap:=h',toks:=tk})
  (F:Fr T.h₀ T.L h m) (N:News T.h₀ T.L h ((D,LCg.lst ys)::pd)) (o1:Off1 D pd) (hn:h.Ns C m') (nf:T.h₀.get? C=none) (vp:T.h₀.get? D=none) (Ji:C≠T.L) (_:D≠T.L) (MK:C≠D)
  (xf:∀p∈pd,p.1≠C) (f:ND G T l m ae dO as ys pd):compPost (model G.prog G.w) T.A E none Q (.ref D) C (.ok .next) {s with heap:=h,toks:=tk}:=by
 refine mX f fun W' UM cW R' jZ r=>?_;clear f;subst cW
 refine ⟨m',hn,fun jM Es=>?_⟩
 have F2:=F.change Es Ji nf
 have N2:News T.h₀ T.L jM ([(D,LCg.lst ys)]++W'.news (l++T.fz)):=fun p hp=>by
  refine ⟨Es.extBut _ _ ?_ (N p hp).1,(N p hp).2⟩
  rcases gn hp with rfl | hp
  ·exact Ne.symm MK
  ·exact xf p hp
 have off:∀{z:List (Addr×Obj)},Off1 D z->∀p∈z,p.1≠D:=by
  intro z
  induction z with
  |nil=>intro _ p hp;exact zM hp
  |cons q z ih=>
   intro hz p hp
   rcases gn hp with rfl | hp
   ·exact hz.1
   ·exact ih hz.2 p hp
 have R2:(T.aD l).Rep G jM m (W'.push D [(D,LCg.lst ys)]) (aB dO (dO.mem.push (.list as))):=(R'.heap F2 fun p hp=>N2 p (List.mem_append_right _ hp)).uE (l:=[(D,LCg.lst ys)]) F2 N2 (fun p hp q hq=>by refine aa (dU hq) ?_;exact off o1 p hp) (by simp) ⟨ys,_,rfl,r.mono (W'.aS _ _)⟩
 refine ay (fin _ _ jM m mm (jZ.trans (W'.aS _ _)) R2 e8) fun i5 wu gJ=>?_
 exact P i5 jM tk _ ((jZ.trans (W'.aS _ _)).trans wu) gJ ((R'.eE D [(D,LCg.lst ys)]).mono wu)
theorem mR(e:Bh P f x fi c cx σ=some (a,aF)):
  ∃src aE xs as dO mm,fi cx σ=some (src,aE)/\vd P aE.mem src=some xs/\xs.length<=900/\jz c f x cx xs (aB aE (hide aE.mem src))=some (as,dO)/\iK aE.mem (aB dO (dO.mem.push (.list as))).mem src=some mm/\a= .o dO.mem.n/\aF=aB (aB dO (dO.mem.push (.list as))) mm:=by
 unfold Bh at e
 generalize hc:cx.comp=bZ;induction bZ with
 |some z=>replace e:=hc▸e;exact zS e
 |none=>
  replace e:=hc▸e
  refine af e fun src aE e1 e2=>?_;clear e
  refine ab e2 fun xs e3 e4=>?_;clear e2
  refine au e4 fun hs e5=>?_;clear e4
  refine af e5 fun as dO e6 e7=>?_;clear e5
  refine au e7 fun _ e8=>?_;clear e7
  refine ab (show ob (iK aE.mem (aB dO (dO.mem.push (.list as))).mem src) (fun m=>some (AV.o dO.mem.n,aB (aB dO (dO.mem.push (.list as))) m))=some (a,aF) from e8) fun mm e9 Gg=>?_
  refine eO Gg fun eY dQ=>?_;clear Gg;clear e8;subst eY dQ
  exact ⟨src,aE,xs,as,dO,mm,e1,e3,hs,e6,e9,rfl,rfl⟩
theorem OU(gk:qi G){sc:List (Str×NameKind)}(tM:xu scope (code x) (.fn sc)=true)(sT:bT iter=false)(hi:SE G n (.fn sc) fi iter)(hf:SE G n (.comp scope.names sc) f elt):
  SE G n (.fn sc) (Bh G.P f (code x) fi none) (.ListComp elt [⟨.Name x px,iter,[],0⟩] scope pos):=by
 intro T W m σ s a aF Q E ok R ev P
 refine NF (mR ev) fun src aE xs as dO mm e1 e3 hs e6 e8 cZ dq=>?_;clear ev;subst cZ dq
 refine tI (sM tM) fun hk hx iP pK lP=>?_
 refine ay (pj ok lP) fun cl vo dI=>?_
 refine aa (eval_ListComp ..) ?_
 refine wpAny_comprehension_free (use:=none) rfl (lX sT T.env) vo hk pK (hi T W m σ s src _ _ E ok R e1 fun W₁ aq ar bp ag ak aK=>?_)
 refine SrcR.out (oq (s:={s with heap:=aq,toks:=ar}) gk (ok.mono ag) ak aK e3) fun l ae oI fp P' St ax az S fin=>?_
 refine S.it _ _ ?_
 have Ge:T.L≠aq.objs.size:=Nat.ne_of_lt ak.fr.ns.lt
 have rest:=yL (s:={s with heap:=aq.push oI,toks:=ar}) (P:=P') ok (ag.trans ax) hk dI S.val hf xs.length 0 [] [] as ae _ aq (by omega) az (.refl _) trivial (by refine aa List.drop_zero ?_;exact e6)
 replace rest:=(List.nil_append ..)▸rest
 refine block_U (RR:=fun acc C=>compPost (model G.prog G.w) T.A E none Q acc C) (S:=fun nw=>∀p∈l,p∈nw) (news:=ae.news (l++T.fz)) S.walks (by refine aa sizeLine_eq ?_;omega) S.io S.st iP hk hx S.ON (fun d hd=>by show d<(aq.push oI).objs.size;refine aa (Heap.size_push ..) ?_;exact S.fpb d hd)
  (az.fr.push oI) (fun p hp=>⟨Heap.get?_push_of_some _ (az.nw p hp).1,(az.nw p hp).2⟩) Ge (next_is_new ak.fr) (fun p hp=>Nat.ne_of_lt (Heap.lt_size (az.nw p hp).1)) (fun p hp=>iv (W:=ae) (sJ _ hp)) rest ?_
 intro D C h tk m' ys pd F' N' o1 hn nf vp Ji N7 MK xf fi
 exact Ea (s:=s) ok (ag.trans ax) e8 fin (fun W' h' tk v le R r=>P W' h' tk v ((ag.trans ax).trans le) R r) F' N' o1 hn nf vp Ji N7 MK xf fi
theorem KH(gk:qi G){sc:List (Str×NameKind)}(tM:xu scope (code x) (.fn sc)=true)(sT:bT iter=false)(hi:SE G n (.fn sc) fi iter)(hf:SE G n (.comp scope.names sc) f elt)(hc:zQ G n (.comp scope.names sc) c ct):
  SE G n (.fn sc) (Bh G.P f (code x) fi (some c)) (.ListComp elt [⟨.Name x px,iter,[ct],0⟩] scope pos):=by
 intro T W m σ s a aF Q E ok R ev P
 refine NF (mR ev) fun src aE xs as dO mm e1 e3 hs e6 e8 dp fQ=>?_;clear ev;subst dp fQ
 refine tI (sM tM) fun hk hx iP pK lP=>?_
 refine ay (pj ok lP) fun cl vo dI=>?_
 refine aa (eval_ListComp ..) ?_
 refine wpAny_comprehension_free (use:=none) rfl (lX sT T.env) vo hk pK (hi T W m σ s src _ _ E ok R e1 fun W₁ aq ar bp ag ak aK=>?_)
 refine SrcR.out (oq (s:={s with heap:=aq,toks:=ar}) gk (ok.mono ag) ak aK e3) fun l ae oI fp P' St ax az S fin=>?_
 refine S.it _ _ ?_
 have Ge:T.L≠aq.objs.size:=Nat.ne_of_lt ak.fr.ns.lt
 have rest:=lG (s:={s with heap:=aq.push oI,toks:=ar}) (P:=P') ok (ag.trans ax) hk dI S.val hf hc xs.length 0 [] [] as ae _ aq (by omega) az (.refl _) trivial (by refine aa List.drop_zero ?_;exact e6)
 replace rest:=(List.nil_append ..)▸rest
 refine block_T (RR:=fun acc C=>compPost (model G.prog G.w) T.A E none Q acc C) (S:=fun nw=>∀p∈l,p∈nw) (news:=ae.news (l++T.fz)) S.walks (by refine aa sizeLine_eq ?_;omega) S.io S.st iP hk hx S.ON (fun d hd=>by show d<(aq.push oI).objs.size;refine aa (Heap.size_push ..) ?_;exact S.fpb d hd)
  (az.fr.push oI) (fun p hp=>⟨Heap.get?_push_of_some _ (az.nw p hp).1,(az.nw p hp).2⟩) Ge (next_is_new ak.fr) (fun p hp=>Nat.ne_of_lt (Heap.lt_size (az.nw p hp).1)) (fun p hp=>iv (W:=ae) (sJ _ hp)) rest ?_
 intro D C h tk m' ys pd F' N' o1 hn nf vp Ji N7 MK xf fi
 exact Ea (s:=s) ok (ag.trans ax) e8 fin (fun W' h' tk v le R r=>P W' h' tk v ((ag.trans ax).trans le) R r) F' N' o1 hn nf vp Ji N7 MK xf fi
end
noncomputable def Nl:Bm->String
 | .append=> "list.append" | .extend=> "list.extend" | .get=> "dict.get" | .keys=> "dict.keys" | .update=> "dict.update" | .starts=> "str.startswith"
noncomputable def adQ(c:BL)(v:Value)(r:Value×List Value):Prop:=match c with
 | .fn f=>r=(.ref f,[v])
 | .bm m=>r=(.builtin (Nl m),[v])
theorem dY(h:pick x y a b=some r):(x=y/\a=some r)\/(x≠y/\b=some r):=by
 unfold pick at h
 replace h:=(eT ..)▸h
 by_cases q:x=y
 ·replace h:=(decide_eq_true q)▸h;exact .inl ⟨q,h⟩
 ·replace h:=(decide_eq_false q)▸h;exact .inr ⟨q,h⟩
theorem DZ{h:Heap}(e:h.get? a=some o)(hd:o.dict=none):∀b,Value.ref a= .ref b->∃o,h.get? b=some o/\o.dict=none:=fun b q=>by cases q;exact ⟨o,e,hd⟩
theorem Kv(x y:Str):(decide (0+y.length<=x.length)&&Builtin.Str.subAt x y 0)=lu y.cps.toList x.cps.toList:=by
 have key:∀p q:List Nat,lu p q=(q.take p.length==p):=by
  intro p
  induction p with
  |nil=>intro q;refine aa List.length_nil (aa List.take_zero ?_);rfl
  |cons a p ih=>
   intro q
   induction q using iM with
   |nil=>rfl
   |cons b q=>
    show (Bool.rec false (lu p q) (Nat.beq a b):Bool)=_
    refine aa (eT ..) (aa (ih q ..) (aa (List.length_cons ..) (aa (List.take_succ_cons ..) ?_)))
    by_cases h:a=b
    ·subst h
     refine aa (decide_eq_true rfl ..) ?_
     show _=(a::q.take p.length==a::p)
     simp
    ·refine aa (decide_eq_false h ..) ?_
     have:¬ b=a:=fun e=>h e.symm
     show false=(b::q.take p.length==a::p)
     simp [this]
 refine aa (key ..) ?_
 have hx:x.length=x.cps.toList.length:=by show x.cps.size=_;simp
 have hy:y.length=y.cps.toList.length:=by show y.cps.size=_;simp
 have hs:Builtin.Str.subAt x y 0=(x.cps.toList.take y.cps.toList.length==y.cps.toList):=by
  unfold Builtin.Str.subAt
  refine aa (Nat.zero_add ..) (aa (hy ..) ?_)
  have e1:(x.cps.extract 0 y.cps.toList.length)=(x.cps.toList.take y.cps.toList.length).toArray:=by
   apply Array.ext'
   simp
  refine aa (e1 ..) ?_
  generalize hz:x.cps.toList.take y.cps.toList.length=z
  rw [Bool.eq_iff_iff]
  simp only [beq_iff_eq]
  constructor
  ·intro h;exact aa (Eq.symm h) rfl
  ·intro h;exact aa h rfl
 refine aa (hs ..) (aa (hx ..) (aa (hy ..) (aa (Nat.zero_add ..) ?_)))
 by_cases h:y.cps.toList.length<=x.cps.toList.length
 ·exact aa (decide_eq_true h ..) (aa (Bool.true_and ..) rfl)
 ·refine aa (decide_eq_false h ..) (aa (Bool.false_and ..) ?_)
  symm
  rw [beq_eq_false_iff_ne]
  intro e
  have:=congrArg List.length e
  replace this:=List.length_take▸this
  omega
section
theorem Bb(q:Q (.builtin "str.startswith",[.str z t]) s):wpAny M A (getMethod (.str z t) (Str.ofString "startswith") pl) Q E s:=by
 with_reducible exact getMethod_builtin (typeIs_str _ _ _) PySem.F.plainAttrs_str PySem.F.slot_str_startswith PySem.F.type_str_startswith (fun a h=>Value.noConfusion h) q
theorem Bd(hl:s.heap.IsList a UI)(hd:∀b,Value.ref a= .ref b->∃o,s.heap.get? b=some o/\o.dict=none)(q:Q (.builtin "list.append",[.ref a]) s):wpAny M A (getMethod (.ref a) (Str.ofString "append") pl) Q E s:=
 getMethod_builtin hl.typeIs PySem.F.plainAttrs_list PySem.F.slot_list_append PySem.F.type_list_append hd q
theorem Bc(hl:s.heap.IsList a UI)(hd:∀b,Value.ref a= .ref b->∃o,s.heap.get? b=some o/\o.dict=none)(q:Q (.builtin "list.extend",[.ref a]) s):wpAny M A (getMethod (.ref a) (Str.ofString "extend") pl) Q E s:=
 getMethod_builtin hl.typeIs PySem.F.plainAttrs_list PySem.F.slot_list_extend PySem.F.type_list_extend hd q
end
section
variable {G:Gx}{ob:Obj}
theorem xI(N:News h₀ L s.heap news)(hm:(a,ob)∈news)(hd:ob.IsDictOf (strKind G.prog G.w) kvs)(q:Q (.builtin "dict.get",[.ref a]) s):wpAny (model G.prog G.w) A (getMethod (.ref a) (Str.ofString "get") pl) Q E s:=kdg_method N hm hd q
theorem H2(N:News h₀ L s.heap news)(hm:(a,ob)∈news)(hd:ob.IsDictOf (strKind G.prog G.w) kvs)(q:Q (.builtin "dict.keys",[.ref a]) s):wpAny (model G.prog G.w) A (getMethod (.ref a) (Str.ofString "keys") pl) Q E s:=kdl_method PySem.F.slot_dict_keys PySem.F.type_dict_keys N hm hd q
theorem Ba(N:News h₀ L s.heap news)(hm:(a,ob)∈news)(hd:ob.IsDictOf (strKind G.prog G.w) kvs)(q:Q (.builtin "dict.update",[.ref a]) s):wpAny (model G.prog G.w) A (getMethod (.ref a) (Str.ofString "update") pl) Q E s:=kdl_method PySem.F.slot_dict_update PySem.F.type_dict_update N hm hd q
end
theorem AP(h:code x=n7):x=Str.ofString "append" :=by unfold n7 S at h;exact code_inj h
theorem AN(h:code x=n6):x=Str.ofString "extend" :=by unfold n6 S at h;exact code_inj h
theorem xw(h:code x=v7):x=Str.ofString "get" :=by unfold v7 S at h;exact code_inj h
theorem HP(h:code x=zl):x=Str.ofString "keys" :=by unfold zl S at h;exact code_inj h
theorem AM(h:code x=nZ):x=Str.ofString "update" :=by unfold nZ S at h;exact code_inj h
theorem qn(h:code x=n4):x=Str.ofString "startswith" :=by unfold n4 S at h;exact code_inj h
section
theorem Fx(ca:dX G){T:At}(ok:T.Ok G n b W)(R:T.Rep G s.heap m W σ)
  (hv:VR W x v) (e:xW G.P σ.mem (code name) x=some c) (q:∀r,adQ c v r->Q r s):wpAny (model G.prog G.w) T.A (getMethod v name pl) Q E s:=by
 induction x with
 |str z=>
  refine aU hv fun t b7=>?_;clear hv;subst b7
  have e':pick (code name) n4 (some (BL.bm .starts)) none=some c:=e
  rcases dY e' with ⟨h1,h2⟩ | ⟨_,h2⟩
  ·obtain rfl:BL.bm .starts=c:=aH h2
   refine aa (qn h1) ?_
   exact Bb (q _ rfl)
  ·exact zS h2
 |o i=>
  refine ab e fun o e1 e2=>?_;clear e
  induction o with
  |inst C fs=>
   refine ab e2 fun ci e3 e4=>?_;clear e2
   refine ab e4 fun at_ e5 e6=>?_;clear e4
   refine FV (R.inst e1 hv) fun ad dx es k ci' cw _ _ I f e7 w=>?_;clear hv;subst cw
   replace e7:=e3▸e7;have Lq:=aH e7;clear e7;subst Lq
   have co:=ca C _ e3
   induction at_ with
   |fn g=>
    have Lp:=aH e6;clear e6;subst Lp
    refine ay (f.look name) fun r g1 g2=>?_
    have hn:ah (code name) fs=none:=by
     generalize z:ah (code name) fs=bZ;induction bZ with
     |none=>rfl
     |some y=>have:=w _ _ z;replace this:=e5▸this;exact nomatch this
    replace g2:=hn▸g2
    have:=g2.none;subst this
    exact method_inst R.fr ok.gL.X I (co.get name) (co.fn name g e5).1 (co.fn name g e5).2 g1 (q _ rfl)
   |_=>exact zS e6
  |list xs=>
   refine R.yW e1 hv fun ad vs k dC _ _ r hl hm=>?_;clear e1 hv;subst dC
   have hd:=DZ (R.nw _ hm).1 rfl
   have e3:pick (code name) n7 (some (BL.bm .append)) (pick (code name) n6 (some (BL.bm .extend)) none)=some c:=e2
   rcases dY e3 with ⟨h1,h2⟩ | ⟨_,h2⟩
   ·have Lo:=aH h2;clear h2;clear e2 e3;subst Lo
    refine aa (AP h1) ?_
    exact Bd hl hd (q _ rfl)
   ·rcases dY h2 with ⟨h1,h2⟩ | ⟨_,h2⟩
    ·have Ln:=aH h2;clear h2;clear e2 e3 h2;subst Ln
     refine aa (AN h1) ?_
     exact Bc hl hd (q _ rfl)
    ·exact zS h2
  |dict es=>
   refine R.yX e1 hv fun ad ob kvs dk _ _ hm hd r lo=>?_;clear e1 hv;subst dk
   have e3:pick (code name) v7 (some (BL.bm .get)) (pick (code name) zl (some (BL.bm .keys)) (pick (code name) nZ (some (BL.bm .update)) none))=some c:=e2
   rcases dY e3 with ⟨h1,h2⟩ | ⟨_,h2⟩
   ·have Lm:=aH h2;clear h2;clear e2 e3;subst Lm
    refine aa (xw h1) ?_
    exact xI R.nw hm hd (q _ rfl)
   ·rcases dY h2 with ⟨h1,h2⟩ | ⟨_,h2⟩
    ·have Ll:=aH h2;clear h2;clear e2 e3 h2;subst Ll
     refine aa (HP h1) ?_
     exact H2 R.nw hm hd (q _ rfl)
    ·rcases dY h2 with ⟨h1,h2⟩ | ⟨_,h2⟩
     ·have Lk:=aH h2;clear h2;clear e2 e3 h2;subst Lk
      refine aa (AM h1) ?_
      exact Ba R.nw hm hd (q _ rfl)
     ·exact zS h2
  |pmap kn j=>
   refine R.rB e1 hv fun ad l qv _ l2 qa=>jB qa fun ob kvs qe hd lo _ g=>?_;clear qa hv;subst qv qe
   rcases dY (show pick (code name) v7 (some (BL.bm .get)) none=some c from e2) with ⟨h1,h2⟩ | ⟨_,h2⟩
   ·have XX:=aH h2;clear h2;clear e2;subst XX
    refine aa (xw h1) ?_
    exact xI R.nw (cD (fz:=T.fz) l2 cg) hd (q _ rfl)
   ·exact zS h2
  |_=>exact zS e2
 |d i=>
  have tg:=R.dat.tag i v hv
  have e':(match bN G.P i with | .dict _=>pick (code name) v7 (some (BL.bm .get)) none | _=>none)=some c:=e
  split at e'
  ·rename_i ht
   replace tg:=ht▸tg
   refine wg tg fun ad ob kvs eD hm hd lo _=>?_;clear tg;clear hv;subst eD
   rcases dY e' with ⟨h1,h2⟩ | ⟨_,h2⟩
   ·have XW:=aH h2;clear h2;clear e e';subst XW
    refine aa (xw h1) ?_
    exact xI R.nw (fT hm) hd (q _ rfl)
   ·exact zS h2
  ·exact zS e'
 |_=>exact zS e
theorem ma(h:It mem x=some p):x= .o p.1/\mem.get p.1=some (.list p.2):=by
 induction x with
 |o i=>
  refine ab h fun o h1 h2=>?_;clear h
  induction o with
  |list xs=>have XU:=aH h2;clear h2;subst XU;exact ⟨rfl,h1⟩
  |_=>exact zS h2
 |_=>exact zS h
theorem mc(h:JJ mem x=some p):x= .o p.1/\mem.get p.1=some (.dict p.2):=by
 induction x with
 |o i=>
  refine ab h fun o h1 h2=>?_;clear h
  induction o with
  |dict xs=>have XS:=aH h2;clear h2;subst XS;exact ⟨rfl,h1⟩
  |_=>exact zS h2
 |_=>exact zS h
theorem dD(h:one l=some a):l=[a]:=by
 induction l using iM with
 |nil=>exact zS h
 |cons b r=>
  induction r using iM with
  |nil=>have XR:=aH h;clear h;subst XR;rfl
  |cons _ _=>exact zS h
theorem bE.one(h:bE W [a] vs):∃v,vs=[v]/\VR W a v:=by
 induction vs using iM with
 |nil=>exact h.elim
 |cons v r=>
  induction r using iM with
  |nil=>exact ⟨v,rfl,h.1⟩
  |cons _ _=>exact h.2.elim
theorem DR.merge(h:DR W gs more):∀{es:bk} {kvs:List (Str×Value)},DR W es kvs->(kvs.map (·.1)).Nodup->DR W (Cb es gs) (merged kvs more):=by
 induction h with
 |nil=>intro es kvs d _;exact d
 |cons hv _ ih=>
  rename_i x a v gs more _
  intro es kvs d nd
  show DR W (Cb (jV x a es) gs) (merged (stored kvs x v) more)
  refine ih (d.put nd x hv) ?_
  clear ih
  unfold stored
  split
  ·have:((kvs.map fun kv=>if kv.1=x then (kv.1,v) else kv).map (·.1))=kvs.map (·.1):=by
    refine aa List.map_map ?_
    refine List.map_congr_left fun p _=>?_
    show (if p.1=x then (p.1,v) else p).1=p.1
    split<;>rfl
   refine aa this ?_;exact nd
  ·rename_i qZ
   rw [List.map_append,List.nodup_append]
   refine ⟨nd,by simp,fun y hy z hz e=>?_⟩
   have UN:z=x:=by simpa using hz
   subst UN;subst e
   apply qZ
   refine ay (nS hy) fun p hp fG=>?_;clear hy qZ hz;subst fG
   exact List.any_eq_true.mpr ⟨p,hp,by simp⟩
theorem xJ{f:AV->AV->Mine.R AV}(R:T.Rep G s.heap m W σ)(hp:bE W pos vs)
  (hf:∀k d,f k d=some (a,aF)->∃z r,k= .str z/\∃ad ob kvs,v= .ref ad/\(ad,ob)∈W.news T.fz/\ob.IsDictOf (strKind G.prog G.w) kvs/\(ad==sysModules)=false/\fJ (VR W) r (valueAt kvs z)/\(a=r.getD d/\aF=σ))
  (e:(match (generalizing:=false) pos with | [k]=>f k .none | [k,d]=>f k d | _=>none)=some (a,aF)) (P:gV G T W m aF (fun W u=>VR W a u) Q s):wpAny (model G.prog G.w) T.A (call (.builtin "dict.get") (v::vs)) Q E s:=by
 have fin:∀{r:Option AV} {x:Option Value} {d:AV} {dv:Value},fJ (VR W) r x->VR W d dv->VR W (r.getD d) (x.getD dv):=by
  intro r x d dv h1 h2
  induction r with
  |none=>refine aa h1.none ?_;exact h2
  |some y=>refine h1.someE fun u gF g=>?_;clear h1;subst gF;exact g
 split at e
 ·rename_i k
  refine ay hp.one fun kv gg hk=>?_;subst gg
  obtain ⟨z,r,rfl,ad,ob,kvs,rfl,hm,hd,lo,g,rfl,rfl⟩:=hf k _ e
  refine VR.eB hk fun t=>?_;clear hk
  exact kdg_get1 R.nw hm hd lo (strKind_is _ _ _ _) _ rfl (P W s.heap _ _ (.refl _) R (fin (d:= .none) (dv:= .none) g rfl))
 ·rename_i k d
  induction vs using iM with
  |nil=>exact hp.elim
  |cons kv vs=>
   refine ay hp.2.one fun dv cW ME=>?_;subst cW
   obtain ⟨z,r,rfl,ad,ob,kvs,rfl,hm,hd,lo,g,rfl,rfl⟩:=hf k d e
   refine aU hp.1 fun t eY=>?_;clear hp;subst eY
   exact kdg_get2 R.nw hm hd lo (strKind_is _ _ _ _) _ rfl (P W s.heap _ _ (.refl _) R (fin g ME))
 ·exact zS e
theorem VZ{Q:Value->Shared->Prop}(R:T.Rep G s.heap m W σ)
  (hx:VR W x v) (hp:bE W pos vs) (e:runM G.P σ mm x pos=some (a,aF)) (P:gV G T W m aF (fun W u=>VR W a u) Q s):wpAny (model G.prog G.w) T.A (call (.builtin (Nl mm)) (v::vs)) Q E s:=by
 induction mm with
 |append=>
  refine ab (show ob (one pos) (fun a=>ob (It σ.mem x) fun p=>short p.2 (some (AV.none,aB σ (σ.mem.set p.1 (.list (p.2 ++ [a]))))))=some (a,aF) from e) fun y e1 e2=>?_
  refine ab e2 fun p e3 e4=>?_;clear e2
  refine au e4 fun hs e5=>?_;clear e4
  refine eO e5 fun dQ cZ=>?_;clear e5;subst dQ cZ
  refine aM (ma e3) fun dq e6=>?_;clear e3;subst dq
  have:=dD e1;subst this
  refine ay hp.one fun u dp hu=>?_;clear hp;subst dp
  refine R.cY e6 hx fun ad ws k ha hl r hil hm=>?_;clear e6 hx
  refine R.iu (i:=p.1) (u:=[]) (v:=[]) hl fun pre post s1 s2 s3 s4=>?_
  have U:=kZ (o:=listOf (List.toArray ws) k) (o':=listOf ((List.toArray ws).push u) (k+1)) s3 s4
  replace U:=(Eq.symm s1)▸U;replace U:=(Eq.symm (show (W.upd p.1 [(ad,listOf ((List.toArray ws).push u) (k+1))]).news T.fz=_ from s2 _))▸U
  refine append_K R.fr R.nw U (fun h' F' N'=>?_) (by refine aa List.size_toArray (aa (Eq.symm r.length) (aa sizeLine_eq ?_));omega)
  exact P _ h' s.toks _ (W.aP p.1 _) (R.rT F' N' hl ha rfl ⟨ws ++ [u],k+1,by exact aa (List.push_toArray ..) rfl,(r.snoc hu).mono (W.aP _ _)⟩) rfl
 |extend=>
  refine ab (show ob (one pos) (fun a=>ob (It σ.mem x) fun p=>ob (It σ.mem a) fun q=>short p.2 (short q.2 (Bool.rec (some (AV.none,aB σ (σ.mem.set p.1 (.list (p.2++q.2))))) none (Nat.beq p.1 q.1))))=some (a,aF) from e) fun y e1 e2=>?_
  refine ab e2 fun p e3 e4=>?_;clear e2
  refine ab e4 fun q e5 e6=>?_;clear e4
  refine au e6 fun hs e7=>?_;clear e6
  refine au e7 fun hs2 e8=>?_;clear e7
  replace e8:=(eT ..)▸e8
  by_cases hq:p.1=q.1
  ·replace e8:=(decide_eq_true hq)▸e8;exact zS e8
  ·replace e8:=(decide_eq_false hq)▸e8
   refine eO e8 fun eX fO=>?_;clear e8;subst eX fO
   refine aM (ma e3) fun eW g1=>?_;clear e3;subst eW
   refine aM (ma e5) fun gh g2=>?_;clear e5;subst gh
   have:=dD e1;subst this
   refine ay hp.one fun u jm hu=>?_;clear hp;subst jm
   refine R.cY g1 hx fun ad ws k ha hl r hil hm=>?_;clear g1 hx
   refine R.cY g2 hu fun Wf WE k2 ha2 BU r2 agP N0=>?_;clear g2 hu
   refine R.iu (i:=p.1) (u:=[]) (v:=[]) hl fun pre post s1 s2 s3 s4=>?_
   have N:=R.nw
   have N':News T.h₀ T.L s.heap (pre++(ad,listOf (List.toArray ws) k)::post):=by refine aa (Eq.symm s1) ?_;exact N
   refine extend_in (D:=ad) (b:=Wf) (ys:=ws) (n:=k) (n2:=k2) (its2:=WE.toArray) R.fr N' s3 s4 (N _ N0).1 (fun h' n' F' N2=>?_) (by refine aa List.size_toArray (aa (Eq.symm r.length) (aa (Eq.symm r2.length) (aa sizeLine_eq ?_)));omega)
   have N3:News T.h₀ T.L h' ((W.upd p.1 [(ad,listOf (ws++WE).toArray n')]).news T.fz):=by
    refine aa (show (W.upd p.1 [(ad,listOf (ws++WE).toArray n')]).news T.fz=_ from s2 _) ?_;exact N2
   exact P _ h' s.toks _ (W.aP p.1 _) (R.rT F' N3 hl ha rfl ⟨ws++WE,n',rfl,(r.append r2).mono (W.aP _ _)⟩) rfl
 |get=>
  induction x with
  |d i=>
   refine xJ R hp (f:=Nb G.P σ i) (fun k d e3=>?_) e P
   induction k with
   |str z=>
    refine ab e3 fun r e4 e5=>?_;clear e3
    refine wg (R.dat.dg i z r e4 v hx) fun ad ob kvs su hf hd lo g=>?_;clear hx;subst su
    refine ⟨z,r.map AV.d,rfl,ad,ob,kvs,rfl,fT hf,hd,lo,?_,?_⟩
    ·induction r with
     |none=>refine aa g.none ?_;trivial
     |some j=>refine g.someE fun u g1 g2=>?_;refine aa g1 ?_;exact g2
    ·refine eO e5 fun oN mC=>?_;clear e5;subst oN mC;induction r<;>exact ⟨rfl,rfl⟩
   |_=>exact zS e3
  |o i=>
   refine ab e fun o e1 e2=>?_;clear e
   induction o with
   |dict es=>
    refine R.dP e1 hx fun ad ob kvs _ _ hm hd r lo=>?_;clear e1 hx
    refine xJ R hp (f:=Me σ es) (fun k d e3=>?_) e2 P
    induction k with
    |str z=>exact ⟨z,bP (code z) es,rfl,ad,ob,kvs,rfl,hm,hd,lo,r.look z,by refine eO e3 fun oK oH=>?_;clear e3;clear P e2;subst oK oH;cases bP (code z) es<;>exact ⟨rfl,rfl⟩⟩
    |_=>exact zS e3
   |pmap kn j=>
    refine R.p9 e1 hx fun ad l _ l2 qa=>jB qa fun ob kvs qe hd lo _ g=>?_;clear qa;subst qe
    refine xJ R hp (f:=LL σ kn) (fun k d e3=>?_) e2 P
    induction k with
    |str z=>
     refine ab e3 fun ov e4 e5=>?_;clear e3
     exact ⟨z,ov,rfl,ad,ob,kvs,rfl,cD (fz:=T.fz) l2 cg,hd,lo,g z _ e4,by refine eO e5 fun w6 w5=>?_;clear e5;subst w6 w5;induction ov<;>exact ⟨rfl,rfl⟩⟩
    |_=>exact zS e3
   |_=>exact zS e2
  |_=>exact zS e
 |keys=>
  refine ab (show ob (JJ σ.mem x) (fun p=>(List.rec (jX (.keys p.1) σ) (fun _ _ _=>none) pos:Mine.R AV))=some (a,aF) from e) fun p e1 e2=>?_
  refine aM (mc e1) fun wZ g1=>?_;clear e1;subst wZ
  induction pos using iM with
  |cons _ _=>exact zS e2
  |nil=>
   induction vs using iM with
   |cons _ _=>exact hp.elim
   |nil=>
    refine dS e2 fun Dz Dy=>?_;clear e2;clear e;subst Dz Dy
    refine R.dP g1 hx fun ad ob kvs ha _ hm hd r lo=>?_;clear g1 hx
    refine kdl_view_keys R.fr R.nw hm hd lo fun D h' F' N' l1=>?_
    exact P _ h' s.toks _ (W.aS D _) (R.push (l:=[(D,_)]) F' N' (fun q hq z hz=>by refine aa (dU hz) ?_;exact l1 q hq) (by simp) ⟨ad,ai (W.aS D _).bg ha,rfl⟩) (R.eE _ _)
 |update=>
  refine ab (show ob (one pos) (fun a=>ob (JJ σ.mem x) fun p=>ob (JJ σ.mem a) fun q=>short p.2 (short q.2 (Bool.rec (some (AV.none,aB σ (σ.mem.set p.1 (.dict (Cb p.2 q.2))))) none (Nat.beq p.1 q.1))))=some (a,aF) from e) fun y e1 e2=>?_
  refine ab e2 fun p e3 e4=>?_;clear e2
  refine ab e4 fun q e5 e6=>?_;clear e4
  refine au e6 fun hs e7=>?_;clear e6
  refine au e7 fun hs2 e8=>?_;clear e7
  replace e8:=(eT ..)▸e8
  by_cases hq:p.1=q.1
  ·replace e8:=(decide_eq_true hq)▸e8;exact zS e8
  ·replace e8:=(decide_eq_false hq)▸e8
   refine eO e8 fun Lz Ly=>?_;clear e8;subst Lz Ly
   refine aM (mc e3) fun Lx g1=>?_;clear e3;subst Lx
   refine aM (mc e5) fun Lw g2=>?_;clear e5;subst Lw
   have:=dD e1;subst this
   refine ay hp.one fun u Lv hu=>?_;clear hp;subst Lv
   refine R.dP g1 hx fun ad ob kvs ha hl hm hd r lo=>?_;clear g1 hx
   refine R.dP g2 hu fun Wf Yp HM ha2 BU N0 hd2 r2 WX=>?_;clear g2 hu
   refine R.iu (i:=p.1) (u:=[]) (v:=[]) hl fun pre post s1 s2 s3 s4=>?_
   have hD:=kda_dict R.nw hm hd
   have hD2:=kda_dict R.nw N0 hd2
   have ne:ad≠Wf:=R.apart (u:=[]) (u':=[]) hq hl BU
   refine call_meetsIn PySem.F.slot_dict_update hD.typeIs PySem.F.entry_dict_update (PySem.F.args_dict_update_2 _ _) (meets_dict_update (strKind G.prog G.w) ad Wf ne WX)
    ⟨kvs,HM,hD,hD2,(by refine aa (Eq.symm r.length) (aa (Eq.symm r2.length) (aa sizeLine_eq ?_));omega),fun h' hmm _ hsb=>?_⟩
   refine ay (Heap.dictOf_iff.mp hmm) fun o' MD tN=>?_
   have UY:=R.nw (ad,ob) hm
   have N2:News T.h₀ T.L h' (pre++(ad,o')::post):=News.setIn (by refine aa (Eq.symm s1) ?_;exact R.nw) s3 s4 hsb MD
   have N3:News T.h₀ T.L h' ((W.upd p.1 [(ad,o')]).news T.fz):=by refine aa (show (W.upd p.1 [(ad,o')]).news T.fz=_ from s2 _) ?_;exact N2
   exact P _ h' s.toks _ (W.aP p.1 _) (R.rT (R.fr.change hsb UY.2.1 UY.2.2) N3 hl ha rfl ⟨o',_,rfl,tN,lo,(r2.merge r (gj hd)).mono (W.aP _ _)⟩) rfl
 |starts=>
  induction x with
  |str z=>
   refine VR.eB hx fun t=>?_;clear hx
   refine ab (show ob (one pos) (fun p=>match p with | .str p=>short z.cps.toList (short p.cps.toList (some (AV.bool (lu p.cps.toList z.cps.toList),σ))) | _=>none)=some (a,aF) from e) fun y e1 e2=>?_
   have:=dD e1;subst this
   refine ay hp.one fun u Lu hu=>?_;subst Lu
   induction y with
   |str w=>
    refine VR.eB hu fun t'=>?_;clear hu
    refine au e2 fun h1 e3=>?_;clear e2
    refine au e3 fun h2 e4=>?_;clear e3
    refine eO e4 fun Ls Lr=>?_;clear e4;clear e;subst Ls Lr
    refine call_gives PySem.F.slot_str_startswith (typeIs_str _ _ _) PySem.F.entry_str_startswith (PySem.F.args_str_startswith_2 _ _) (gives_str_startswith z w t t') ?_
    show Q (.bool (decide (0+w.length<=z.length)&&Builtin.Str.subAt z w 0)) s
    refine aa (Kv ..) ?_
    exact P W s.heap s.toks _ (.refl _) R rfl
   |_=>exact zS e2
  |_=>exact zS e
end
inductive KR(W:Wd):aL->List (Str×Value)->Prop
 |nil:KR W [] []
 |cons {x:Str} {a:AV} {v:Value} {fs:aL} {kvs:List (Str×Value)}:VR W a v->KR W fs kvs->KR W ((code x,a)::fs) ((x,v)::kvs)
theorem KR.mono(l:W.le W')(h:KR W fs kvs):KR W' fs kvs:=by
 induction h with
 |nil=>exact .nil
 |cons v _ ih=>exact .cons (v.mono l) ih
theorem KR.isNil(h:KR W [] kvs):kvs=[]:=by cases h;rfl
noncomputable def named:List Keyword->Bool
 | []=>true
 |⟨n,_,_⟩::r=>n.isSome&&named r
noncomputable def aZ:List Expr->Bool
 | []=>true
 |e::r=>!isStar e&&aZ r
noncomputable def NA(G:Gx)(n:Nat)(b:gf)(f:J6)(ks:List Keyword):Prop:=∀(T:At) (W:Wd) (m:Str->Option Value) (σ:St) (s:Shared) (kw:aL) (aF:St) (pos:Pos) (Q:List Value->Shared->Prop) (E:Value->Shared->Prop),
 T.Ok G n b W->T.Rep G s.heap m W σ->f T.cx σ=some (kw,aF)->gV G T W m aF (fun W vs=>KR W kw (((backToKw pos (keywordEach ks T.env)).filterMap (·.1)).zip vs)) Q s->wpAny (model G.prog G.w) T.A (evalAll ((backToKw pos (keywordEach ks T.env)).map (·.2))) Q E s
theorem mI:∀{ks:List Keyword},named ks=true->(backToKw pos (keywordEach ks env)).all (·.1.isSome)=true/\(backToKw pos (keywordEach ks env)).any (·.1.isNone)=false
 | [],_=>⟨rfl,rfl⟩
 |⟨n,e,p⟩::r,h=>by
  have h':(n.isSome&&named r)=true:=h
  replace h':=(Bool.and_eq_true ..)▸h'
  refine aM (mI (pos:=pos) (env:=env) h'.2) fun h1 h2=>?_
  have e1:backToKw pos (keywordEach (⟨n,e,p⟩::r) env)=(n,do let v <-eval e env;standAt pos;pure v)::backToKw pos (keywordEach r env):=rfl
  refine aa e1 (aa List.all_cons (aa List.any_cons (aa h1 (aa h2 ?_))))
  induction n with
  |none=>exact zT h'.1
  |some x=>exact ⟨rfl,rfl⟩
theorem my(hx:isStar x=false)(rest:List Expr)(env:Env):starEach (x::rest) env=(false,eval x env)::starEach rest env:=by
 induction x using PySem.Expr.casesOn<;>first | rfl | (exact zF hx)
theorem lx:∀{es:List Expr},aZ es=true->(backTo pos (starEach es env)).any (·.1)=false/\(backTo pos (starEach es env)).all (fun p=>!p.1)=true
 | [],_=>⟨rfl,rfl⟩
 |e::r,h=>by
  have h':(!isStar e&&aZ r)=true:=h
  replace h':=(Bool.and_eq_true ..)▸h'
  refine aM (lx (pos:=pos) (env:=env) h'.2) fun h1 h2=>?_
  refine aa (my (by simpa using h'.1) ..) ?_
  have e1:backTo pos ((false,eval e env)::starEach r env)=(false,eval e env)::backTo pos (starEach r env):=rfl
  refine aa (e1 ..) (aa (List.any_cons ..) (aa (List.all_cons ..) (aa (h1 ..) (aa (h2 ..) ?_))))
  exact ⟨rfl,rfl⟩
section
theorem nh(hs:aZ es=true)(HW:keywords.all (·.1.isSome)=true)
  (h:wpAny M A (spliced (backTo pos (starEach es env))) (fun vs t6=>wpAny M A (evalAll (keywords.map (·.2))) (fun ks jS=>Q ⟨vs,(keywords.filterMap (·.1)).zip ks⟩ jS) E t6) E s):
  wpAny M A (evalArgs f true (backTo pos (starEach es env)) keywords) Q E s:=by
 induction es using iM with
 |nil=>
  unfold evalArgs
  show wpAny M A (spliced [] >>=_) Q E s
  refine wpAny_bind (wpAny_mono h (fun vs t6 aq=>?_) fun _ _ x=>x)
  refine wpAny_bind (wpAny_pure ?_)
  refine wpAny_holding ?_
  simp only [HW,if_true]
  refine wpAny_bind (wpAny_mono aq (fun ks jS aJ=>?_) fun _ _ x=>x)
  exact wpAny_bind (wpAny_pure (wpAny_pure aJ))
 |cons e r=>
  have h':(!isStar e&&aZ r)=true:=hs
  replace h':=(Bool.and_eq_true ..)▸h'
  have e1:backTo pos (starEach (e::r) env)=(false,eval e env)::backTo pos (starEach r env):=by refine aa (my (by simpa using h'.1) ..) ?_;rfl
  rw [e1] at h ⊢
  exact evalArgs_kw HW h
end
section
theorem nJ:NA G n b Ee []:=by
 intro T W m σ s kw aF pos Q E ok R ev P
 refine eO ev fun b7 cw=>?_;clear ev;subst b7 cw
 exact kwAll_nil (P W s.heap s.toks _ (.refl _) R .nil)
theorem CQ(hf:SE G n b f e)(hg:NA G n b g rest):NA G n b (yO (code x) f g) (⟨some x,e,p⟩::rest):=by
 intro T W m σ s kw aF pos Q E ok R ev P
 refine af ev fun c aE e1 e2=>?_;clear ev
 refine af e2 fun cs aY e3 e4=>?_;clear e2
 refine eO e4 fun dC dk=>?_;clear e4;subst dC dk
 refine kwAll_cons (hf T W m σ s c _ _ E ok R e1 fun W₁ aq ar bp ag ak aK=>?_)
 exact hg T W₁ m _ _ cs _ pos _ E (ok.mono ag) ak e3 fun ae aJ aG ef ax az aV=>P ae aJ aG _ (ag.trans ax) az (.cons (aK.mono ax) aV)
noncomputable def SH(G:Gx)(n:Nat)(H:we):Prop:=(∀f pos kw σ r,H f pos kw σ=some r->∀(W:Wd) (v:Value),VR W f v->∀h,G.K.In h->∃k,(k=Keeper.frame\/k=Keeper.machine\/k=Keeper.boundFrame)/\Looks (model G.prog G.w) h (keeperOf v) k)/\
 ∀(T:At) (b:gf) (W:Wd) (m:Str->Option Value) (σ:St) (s:Shared) (f:AV) (pos:List AV) (kw:aL) (v:Value) (vs:List Value) (kvs:List (Str×Value)) (a:AV) (aF:St) (Q:Value->Shared->Prop) (E:Value->Shared->Prop),
 T.Ok G n b W->T.Rep G s.heap m W σ->VR W f v->bE W pos vs->KR W kw kvs->H f pos kw σ=some (a,aF)->gV G T W m aF (fun W u=>VR W a u) Q s->wpAny (model G.prog G.w) T.A (call v vs kvs) Q E s
theorem d6{T:At}
  (hS:Gk G n b f as) (hs:aZ as=true) (hK:NA G n b g ks) (hn:named ks=true) (hk:∀h,G.K.In h->∃k,(k=Keeper.frame\/k=Keeper.machine\/k=Keeper.boundFrame)/\Looks (model G.prog G.w) h (keeperOf v) k) (ok:T.Ok G n b W) (R:T.Rep G s.heap m W σ)
  (e1:f T.cx σ=some (vs,aE)) (e2:g T.cx aE=some (kw,aY)) (P:∀W' h' tk us kvs,W.le W'->T.Rep G h' m W' aY->bE W' vs us->KR W' kw kvs->wpAny (model G.prog G.w) T.A (call v (first++us) kvs) Q E {s with heap:=h',toks:=tk}):
  wpAny (model G.prog G.w) T.A (callWith pos v first (backTo pos (starEach as T.env)) (backToKw pos (keywordEach ks T.env))) Q E s:=by
 refine aM (mI (pos:=pos) (env:=T.env) hn) fun h1 h2=>?_
 refine callWith_of (P:=fun h=>G.K.In h) (by refine aa ((lx hs).1) (aa h2 ?_);rfl) hk (nh hs h1 ?_)
 refine hS T W m σ s vs aE pos _ E ok R e1 fun W₁ aq ar us ag ak aK=>?_
 refine hK T W₁ m aE {s with heap:=aq,toks:=ar} kw aY pos _ E (ok.mono ag) ak e2 fun ae aJ aG kvs ax az aV=>?_
 exact ⟨ok.gL.X.keeps az.fr.keep,P ae aJ aG us _ (ag.trans ax) az (aK.mono ax) aV⟩
theorem G3(hH:SH G n H)(he:∀o x p,e≠ .Attribute o x p)(hf:SE G n b f e)(hS:Gk G n b fs as)(hs:aZ as=true)(hK:NA G n b g ks)(hn:named ks=true):SE G n b (E0 H f fs g) (.Call e as ks pos):=by
 intro T W m σ s a aF Q E ok R ev P
 refine af ev fun x aE e1 e2=>?_;clear ev
 refine af e2 fun vs aY e3 e4=>?_;clear e2
 refine af e4 fun kw fV e5 e6=>?_;clear e4
 have e7:H x vs kw fV=some (a,aF):=e6
 have arm:eval (.Call e as ks pos) T.env=(do callWith pos (<-eval e T.env) [] (backTo pos (starEach as T.env)) (backToKw pos (keywordEach ks T.env))):=by
  induction e using PySem.Expr.casesOn<;>first | rfl | exact absurd rfl (he _ _ _)
 refine aa arm ?_
 refine wpAny_bind (hf T W m σ s x _ _ E ok R e1 fun W₁ aq ar bp ag ak aK=>?_)
 refine d6 (s:={s with heap:=aq,toks:=ar}) hS hs hK hn (hH.1 _ _ _ _ _ e7 W₁ bp aK) (ok.mono ag) ak e3 e5 fun ae aJ aG us kvs ax az aV eC=>?_
 exact hH.2 T b ae m fV {s with heap:=aJ,toks:=aG} x vs kw bp us kvs a aF Q E (ok.mono (ag.trans ax)) az (aK.mono ax) aV eC e7 fun bu bq aQ kY bj cc ek=>P bu bq aQ kY ((ag.trans ax).trans bj) cc ek
theorem jJ(h:oZ kw r=some x):kw=[]/\r=some x:=by
 induction kw using iM with
 |nil=>exact ⟨rfl,h⟩
 |cons _ _=>exact zS h
theorem GZ(ca:dX G){H:we}(hH:SH G n H)(hb:bh e=true)(Ew:apos.endLine=pos.line)(hlen:as.length+ks.length<=20)
  (hf:SE G n b f e) (hS:Gk G n b fs as) (hs:aZ as=true) (hK:NA G n b g ks) (hn:named ks=true):SE G n b (EW G.P H f (code name) fs g) (.Call (.Attribute e name apos) as ks pos):=by
 intro T W m σ s a aF Q E ok R ev P
 obtain ⟨x,aE,e1,e2⟩:=l4 ev
 refine ab e2 fun c e0 e2=>?_
 obtain ⟨vs,aY,e3,e4⟩:=l4 e2
 refine af e4 fun kw fV e5 e6=>?_;clear e4
 have e7:Fy G.P H c x vs kw fV=some (a,aF):=e6
 refine aM (mI (pos:=pos) (env:=T.env) hn) fun h1 h2=>?_
 have Vp:methodCallForm (as.length+ks.length) (backTo pos (starEach as T.env)) (backToKw pos (keywordEach ks T.env))=true:=by
  unfold methodCallForm
  refine aa h1 (aa ((lx hs).2) ?_)
  simp only [Bool.true_and,decide_eq_true_eq]
  split<;>omega
 refine aa (arm_eval_Call ..) (aa (jQ hb ..) ?_)
 refine wpAny_bind (hf T W m σ s x _ _ E ok R e1 fun W₁ aq ar bp ag ak aK=>wpAny_bind (wpAny_standAt ?_))
 unfold methodCall
 refine aa Vp ?_
 unfold calleeOf
 simp only [if_true]
 refine wpAny_bind (wpAny_holding (Fx ca (s:={s with heap:=aq,toks:=ar}) (ok.mono ag) ak aK e0 fun r hr=>?_))
 have hp:∀o,methodCallPos true o T.env apos pos=pure pos:=fun o=>by
  unfold methodCallPos
  have:(apos.endLine==pos.line)=true:=by simpa using Ew
  refine aa this ?_;rfl
 refine aa (hp ..) ?_
 refine wpAny_bind (wpAny_pure ?_)
 induction c with
 |fn g'=>
  have MC:r=(.ref g',[bp]):=hr
  subst MC
  have e8:H (.k g') (x::vs) kw fV=some (a,aF):=e7
  refine d6 (s:={s with heap:=aq,toks:=ar}) hS hs hK hn (hH.1 _ _ _ _ _ e8 W₁ _ rfl) (ok.mono ag) ak e3 e5 fun ae aJ aG us kvs ax az aV eC=>?_
  exact hH.2 T b ae m fV {s with heap:=aJ,toks:=aG} (.k g') (x::vs) kw (.ref g') (bp::us) kvs a aF Q E (ok.mono (ag.trans ax)) az rfl ⟨aK.mono ax,aV⟩ eC e8 fun bu bq aQ kY bj cc ek=>P bu bq aQ kY ((ag.trans ax).trans bj) cc ek
 |bm mm=>
  have MC:r=(.builtin (Nl mm),[bp]):=hr
  subst MC
  refine aM (jJ (show oZ kw (runM G.P fV mm x vs)=some (a,aF) from e7)) fun eD e8=>?_;clear e6 e7;subst eD
  refine d6 (s:={s with heap:=aq,toks:=ar}) hS hs hK hn (fun h _=>⟨.machine, .inr (.inl rfl),Looks.of_pure rfl⟩) (ok.mono ag) ak e3 e5 fun ae aJ aG us kvs ax az aV eC=>?_
  have:=eC.isNil;subst this
  exact VZ (s:={s with heap:=aJ,toks:=aG}) az (aK.mono ax) aV e8 fun bu bq aQ kY bj cc ek=>P bu bq aQ kY ((ag.trans ax).trans bj) cc ek
end
theorem jw(g:β->α->β)(P:β->List α->Prop)(f:α->β->Sem (ForInStep β))(h:∀a r b,P b (a::r)->f a b=pure (.yield (g b a))/\P (g b a) r):∀(l:List α) (b:β),P b l->(forIn l b f:Sem β)=pure (l.foldl g b)
 | [],b,_=>rfl
 |a::r,b,p=>by
  refine aa (List.forIn_cons ..) (aa ((h a r b p).1 ..) ?_)
  exact jw g P f h r (g b a) (h a r b p).2
noncomputable def tH(names:List Str):List (Str×Value)->List (Str×Value)->Prop
 |_,[]=>True
 |sl,(k,v)::r=>names.contains k=true/\(sl.lookup k).isSome=false/\tH names (sl ++ [(k,v)]) r
noncomputable def kM(sl:List (Str×Value))(p:Str×Value):List (Str×Value):=if (sl.lookup p.1).isNone=true then sl ++ [(p.1,p.2)] else sl
noncomputable def JE(names:List Str)(ds:List Value)(pos:List Value)(kw:List (Str×Value)):List (Str×Value):=
 names.filterMap fun n=>((((names.drop (names.length-ds.length)).zip ds).foldl kM (names.zip pos++kw)).lookup n).map (n, ·)
theorem rh:∀(kw:List (Str×Value)) (e:List (Str×Value)) (sl:List (Str×Value)),(kw.foldl (fun (b:List (Str×Value)×List (Str×Value)) kv=>(b.1 ++ [(kv.1,kv.2)],b.2)) (sl,e))=(sl++kw,e)
 | [],e,sl=>by simp
 |p::r,e,sl=>by
  refine aa (List.foldl_cons ..) (aa (rh r ..) ?_)
  simp
theorem FA{dl:List Expr}(hp:fd.params=⟨[],args,none,[],[],none,dl⟩)
  (hd:∀(M:Model) (A:Around) (E:Value->Shared->Prop) (Q:Option (Array Value)->Shared->Prop),(∀o:Option (Array Value),(o.getD #[]).toList=ds->Q o s)->wpAny M A (seqItems? fd.defaults) Q E s)
  (h1:tH (args.map (·.arg)) ((args.map (·.arg)).zip pos) kw) (h2:pos.length<=args.length) (h3:ds.length<=args.length)
  (h4:∀n∈(args.map (·.arg)).take (args.length-ds.length),(((args.map (·.arg)).zip pos++kw).lookup n).isSome=true):BindsTo s fd ⟨pos,kw⟩ (JE (args.map (·.arg)) ds pos kw):=by
 intro M A E Q hq
 unfold bindArgs
 refine aa hp ?_
 dsimp only [List.map_nil,List.nil_append,List.append_nil]
 refine wpAny_bind (wpAny_of_eq (jw (fun (b:List (Str×Value)×List (Str×Value)) kv=>(b.1 ++ [(kv.1,kv.2)],b.2)) (fun b l=>tH (args.map (·.arg)) b.1 l) _ ?_ kw _ h1) ?_)
 ·rintro ⟨k,v⟩ r ⟨sl,ex⟩ ⟨g1,g2,g3⟩
  refine ⟨?_,g3⟩
  dsimp only at g2 ⊢
  refine aa g1 (aa g2 ?_)
  rfl
 refine aa (rh ..) ?_
 dsimp only
 refine wpAny_bind (hd M A E _ fun o ho=>?_)
 refine aa ho ?_
 simp only [List.map_nil,List.nil_append,List.append_nil,List.filter_nil,Option.isNone_none,Bool.and_true,decide_eq_true_eq]
 refine aa (if_neg (by rw [List.length_map];omega)) ?_
 have hd0:ds.drop (ds.length-(args.map (·.arg)).length)=ds:=by
  have:ds.length-(args.map (·.arg)).length=0:=by refine aa (List.length_map ..) ?_;omega
  exact aa this (aa List.drop_zero rfl)
 refine aa hd0 ?_
 have hm:((args.map (·.arg)).take ((args.map (·.arg)).length-ds.length)).filter (fun n=>(List.lookup n ((args.map (·.arg)).zip pos++kw)).isNone)=[]:=by
  rw [List.filter_eq_nil_iff]
  intro n hn
  have:=h4 n (by replace hn:=(List.length_map ..)▸hn;exact hn)
  generalize q:List.lookup n ((args.map (·.arg)).zip pos++kw)=bZ;induction bZ with
  |none=>replace this:=q▸this;exact zT this
  |some v=>simp
 refine aa hm ?_
 simp only [List.isEmpty_nil,Bool.not_true,Bool.false_eq_true,if_false]
 refine wpAny_bind (wpAny_of_eq (jw kM (fun _ _=>True) _ ?_ _ _ trivial) ?_)
 ·rintro ⟨k,v⟩ r sl _
  refine ⟨?_,trivial⟩
  unfold kM
  dsimp only
  split<;>rfl
 refine wpAny_pure ?_
 exact hq
theorem KR.append(h:KR W fs a)(k:KR W gs b):KR W (fs++gs) (a++b):=by
 induction h with
 |nil=>exact k
 |cons v _ ih=>exact .cons v ih
theorem KR.look(h:KR W fs a)(x:Str):fJ (VR W) (ah (code x) fs) (a.lookup x):=by
 induction h with
 |nil=>trivial
 |cons v _ ih=>
  rename_i y c u fs a _
  refine aa (aI ..) (aa (List.lookup_cons ..) ?_)
  by_cases q:y=x
  ·subst q;simp;exact v
  ·have h1:¬ code y=code x:=fun e=>q (code_inj e)
   have h2:(x==y)=false:=beq_eq_false_iff_ne.mpr fun e=>q e.symm
   refine aa (if_neg h1 ..) (aa (h2 ..) ?_);exact ih
theorem fJ.isSome{R:α->β->Prop}(h:fJ R a b):a.isSome=b.isSome:=by induction a<;>induction b<;>first | rfl | exact h.elim
theorem wy:∀(names:List Str) {pos:List AV} {us:List Value},bE W pos us->KR W (B4 (names.map code) pos) (names.zip us)
 | [],_,_,_=>by refine aa List.zip_nil_left ?_;exact .nil
 |x::r,[],[],_=>by refine aa List.zip_nil_right ?_;exact .nil
 |x::r,a::as,u::us,h=> .cons h.1 (wy r h.2)
 |_::_,[],_::_,h=>h.elim
 |_::_,_::_,[],h=>h.elim
theorem D5{names:List Str}(h:dG (code k) (names.map code)=true):names.contains k=true:=by
 rw [dF,List.mem_map] at h
 refine ay h fun y hy e=>?_;clear h
 rw [List.contains_iff_mem]
 exact code_inj e▸hy
theorem AZ(h:KR W kw kvs):∀{sl:aL} {wi:List (Str×Value)},KR W sl wi->xH (names.map code) kw sl=true->tH names wi kvs:=by
 induction h with
 |nil=>intro sl wi _ _;trivial
 |cons v hr ih=>
  rename_i x a u fs kvs
  intro sl wi hs e
  have e':(Bool.rec false (Option.rec (xH (names.map code) fs (sl ++ [(code x,a)])) (fun _=>false) (ah (code x) sl)) (dG (code x) (names.map code)):Bool)=true:=e
  generalize hm:dG (code x) (names.map code)=ir;induction ir with
  |false=>replace e':=hm▸e';exact zT e'
  |true=>
   replace e':=hm▸e'
   have g:=hs.look x
   generalize hl:ah (code x) sl=ny;induction ny with
   |some z=>replace e':=hl▸e';exact zT e'
   |none=>
    replace e':=hl▸e';replace g:=hl▸g
    exact ⟨D5 hm,by refine aa g.none ?_;rfl,ih (hs.append (.cons v .nil)) e'⟩
theorem wc{sl:aL}(h:KR W sl wi):∀{ns:List Str},FI (ns.map code) sl=true->∀n∈ns,(wi.lookup n).isSome=true
 | [],_,n,hn=>zM hn
 |x::r,e,n,hn=>by
  have e':(Option.rec false (fun _=>FI (r.map code) sl) (ah (code x) sl):Bool)=true:=e
  have g:=(h.look x).isSome
  generalize hl:ah (code x) sl=rS;induction rS with
  |none=>replace e':=hl▸e';exact zT e'
  |some z=>
   replace e':=hl▸e';replace g:=hl▸g
   rcases gn hn with rfl | hn
   ·exact g.symm
   ·exact wc h e' n hn
theorem E9{l:aL}(h:KR W l vl):∀{sl:aL} {wi:List (Str×Value)},KR W sl wi->KR W (Fb l sl) (vl.foldl kM wi):=by
 induction h with
 |nil=>intro sl wi hs;exact hs
 |cons v hr ih=>
  rename_i x a u fs kvs
  intro sl wi hs
  show KR W (Fb fs (Option.rec (sl ++ [(code x,a)]) (fun _=>sl) (ah (code x) sl))) (kvs.foldl kM (kM wi (x,u)))
  refine ih ?_
  have g:=(hs.look x).isSome
  unfold kM
  generalize hl:ah (code x) sl=tR;induction tR with
  |none=>replace g:=hl▸g;refine aa (if_pos (by generalize q:wi.lookup x=Gn;induction Gn with | none=>rfl | some z=>rw [q] at g;exact zT g)) ?_;exact hs.append (.cons v .nil)
  |some z=>replace g:=hl▸g;refine aa (if_neg (by generalize q:wi.lookup x=Ov;induction Ov with | none=>rw [q] at g;exact zF g | some z=>simp)) ?_;exact hs
theorem oT(h:KR W sl wi):∀(ns:List Str),KR W (yC sl (ns.map code)) (ns.filterMap fun n=>(wi.lookup n).map (n, ·))
 | []=> .nil
 |x::r=>by
  show KR W (Option.rec (yC sl (r.map code)) (fun v=>(code x,v)::yC sl (r.map code)) (ah (code x) sl):aL) _
  have g:=h.look x
  refine aa List.filterMap_cons ?_
  generalize hl:ah (code x) sl=Ou;induction Ou with
  |none=>replace g:=hl▸g;refine aa g.none ?_;exact oT h r
  |some z=>replace g:=hl▸g;refine g.someE fun w w1 w2=>?_;refine aa w1 ?_;exact .cons w2 (oT h r)
theorem DI(sl:List (Str×Value)):∀(ns:List Str),((ns.filterMap fun n=>(sl.lookup n).map (n, ·)).map (·.1)).Sublist ns
 | []=>List.Sublist.slnil
 |x::r=>by
  refine aa List.filterMap_cons ?_
  cases sl.lookup x with
  |none=>exact (DI sl r).cons x
  |some v=>exact (DI sl r).cons_cons x
theorem tm{dl:List Expr}(hp:fd.params=⟨[],args,none,[],[],none,dl⟩)
  (hd:∀(M:Model) (A:Around) (E:Value->Shared->Prop) (Q:Option (Array Value)->Shared->Prop),(∀o:Option (Array Value),(o.getD #[]).toList=M6->Q o s)->wpAny M A (seqItems? fd.defaults) Q E s)
  (rp:bE W pos us) (rd:bE W ds M6) (rk:KR W kw kvs) (e:kl (args.map fun a=>code a.arg) ds pos kw=some binds):∃bs,BindsTo s fd ⟨us,kvs⟩ bs/\KR W binds bs/\(bs.map (·.1)).Sublist (args.map (·.arg)):=by
 have en:(args.map fun a=>code a.arg)=(args.map (·.arg)).map code:=by refine aa List.map_map ?_;rfl
 replace e:=en▸e
 unfold kl at e
 generalize hc:(Nat.ble pos.length ((args.map (·.arg)).map code).length&&_)=c at e
 induction c with
 |false=>exact zS e
 |true=>
  replace hc:=(Bool.and_eq_true ..)▸hc;replace hc:=(Bool.and_eq_true ..)▸hc;replace hc:=(Bool.and_eq_true ..)▸hc
  refine tJ hc fun h1 h2 h3 h4=>?_;clear hc
  have h1:=zd h1
  have h2:=zd h2
  replace h1:=(List.length_map ..)▸h1;replace h1:=(List.length_map ..)▸h1;replace h2:=(List.length_map ..)▸h2;replace h2:=(List.length_map ..)▸h2
  have b7:=aH e;clear e;subst b7
  have z:=wy (args.map (·.arg)) rp
  refine ⟨_,FA hp hd (AZ rk z h3) (by refine aa (Eq.symm rp.length) ?_;exact h1) (by refine aa (Eq.symm rd.length) ?_;exact h2) ?_,?_⟩
  ·replace h4:=(List.length_map ..)▸h4;replace h4:=(List.length_map ..)▸h4;replace h4:=(Eq.symm (List.map_take ..))▸h4
   refine aa (Eq.symm rd.length) ?_
   exact wc (z.append rk) h4
  ·refine ⟨?_,DI _ _⟩
   refine aa (List.length_map ..) (aa (List.length_map ..) (aa (Eq.symm (List.map_drop ..)) ?_))
   unfold JE
   refine aa (List.length_map ..) (aa (Eq.symm (rd.length ..)) ?_)
   exact oT (E9 (wy _ rd) (z.append rk)) _
end
section
noncomputable section
open PySem
noncomputable def aT:aL:=[(code (S "get_md5"), .k 131),(code (S "_law_result"), .k 641),(code (S "_law_group"), .k 648),(code (S "_law_consumer"), .k 655),(code (S "_law_now"), .k 660),(code (S "_law_told"), .k 665),(code (S "_law_make"), .k 672),(code (S "_law_end"), .k 679),(code (S "_law_ask"), .k 684),(code (S "_law_reads"), .k 691),(code (S "JsonDB"), .k 190),(code (S "MD5Checker"), .k 267),(code (S "DependencyStatus"), .k 308),(code (S "Dependency"), .k 427),(code (S "UptodateCalculator"), .k 462),(code (S "result_dep"), .k 630),(code (S "Task"), .k 573),(code (S "_law_subs"), .k 633),(code (S "_law_all"), .k 634),(code (S "isinstance"), .bi .isinstance),(code (S "len"), .bi .len),(code (S "list"), .ty .list),(code (S "dict"), .ty .dict),(code (S "str"), .ty .str),(code (S "tuple"), .ty .tuple),(code (S "bool"), .ty .bool),(code (S "range"), .ty .range),(code (S "enumerate"), .ty .enumerate)]
noncomputable def cellsOf:List (Str×NameKind)->List Nat
 | []=>[]
 |(x,k)::r=>match k with
  | .cell=>code x::cellsOf r
  |_=>cellsOf r
noncomputable def bV(qual:String)(T:Stmt)(ds:List AV):eV:=⟨S qual,(H.fA T).args.map fun x=>code x.arg,ds,tO aT (.fn (H.fS T).names) (H.fB T),cellsOf (H.fS T).names⟩
noncomputable def ac2:eV:=bV "get_md5" H.Oi []
noncomputable def ac1:eV:=bV "JsonDB.__init__" H.zP []
noncomputable def ac0:eV:=bV "JsonDB.set" H.rR []
noncomputable def acZ:eV:=bV "JsonDB.get" H.rP []
noncomputable def acY:eV:=bV "JsonDB.in_" H.rO []
noncomputable def acX:eV:=bV "JsonDB.remove" H.rN []
noncomputable def acW:eV:=bV "FileChangedChecker.__init__" H.zI []
noncomputable def acV:eV:=bV "DependencyStatus.__init__" H.zH []
noncomputable def acU:eV:=bV "DependencyStatus.add_reason" H.rM [.str (S "run")]
noncomputable def acT:eV:=bV "Dependency.__init__" H.zE []
noncomputable def acS:eV:=bV "Dependency._set" H.rL []
noncomputable def acR:eV:=bV "Dependency._get" H.rK []
noncomputable def acQ:eV:=bV "Dependency.remove" H.rJ []
noncomputable def acP:eV:=bV "Dependency._in" H.kr []
noncomputable def acO:eV:=bV "Dependency.save_success" H.rH [.none]
noncomputable def acN:eV:=bV "Dependency.get_values" H.zC []
noncomputable def acM:eV:=bV "Dependency.get_value" H.iR []
noncomputable def acL:eV:=bV "Dependency.get_result" H.tD []
noncomputable def acK:eV:=bV "Dependency.remove_success" H.mW []
noncomputable def acJ:eV:=bV "Dependency.get_status" H.mV [.bool false]
noncomputable def acI:eV:=bV "UptodateCalculator.setup" H.zz []
noncomputable def acH:eV:=bV "UptodateCalculator.get_val" H.nt []
noncomputable def acG:eV:=bV "Task.__init__" H.rG [.k 474, .k 475, .k 476, .k 477, .k 478, .k 479, .none, .bool false, .none]
noncomputable def acF:eV:=bV "Task._init_deps" H.zy []
noncomputable def acE:eV:=bV "Task._init_targets" H.zx []
noncomputable def acD:eV:=bV "Task._init_uptodate" H.zw []
noncomputable def acC:eV:=bV "Task._expand_file_dep" H.zv []
noncomputable def acB:eV:=bV "Task._expand_task_dep" H.zu []
noncomputable def acA:eV:=bV "Task.init_options" H.rF [.none]
noncomputable def acz:eV:=bV "Task._init_getargs" H.tA []
noncomputable def acy:eV:=bV "Task.save_extra_values" H.tx []
noncomputable def acx:eV:=bV "Task.execute" H.tw []
noncomputable def acw:eV:=bV "result_dep.__init__" H.rE [.bool false]
noncomputable def acv:eV:=bV "result_dep.configure_task" H.rD []
noncomputable def acu:eV:=bV "result_dep._result_single" H.kq []
noncomputable def acs:eV:=bV "result_dep._result_group" H.zt []
noncomputable def acr:eV:=bV "result_dep._get_dep_result" H.zr []
noncomputable def acq:eV:=bV "result_dep.tell" H.zq []
noncomputable def acp:eV:=bV "_law_result" H.Og []
noncomputable def aco:eV:=bV "_law_group" H.Of []
noncomputable def acn:eV:=bV "_law_consumer" H.Oe []
noncomputable def acm:eV:=bV "_law_now" H.Od []
noncomputable def ack:eV:=bV "_law_told" H.Oc []
noncomputable def acj:eV:=bV "_law_make" H.Ob []
noncomputable def aci:eV:=bV "_law_end" H.B2 []
noncomputable def ach:eV:=bV "_law_ask" H.Nx []
noncomputable def acg:eV:=bV "_law_reads" H.qh []
noncomputable def iH:Tr eV:= .node 494 acF (.node 340 acR (.node 180 acX (.node 159 ac0 (.node 145 ac1 (.node 131 ac2 (.nil) (.nil)) (.nil)) (.node 173 acY (.node 166 acZ (.nil) (.nil)) (.nil))) (.node 291 acU (.node 283 acV (.node 208 acW (.nil) (.nil)) (.nil)) (.node 333 acS (.node 326 acT (.nil) (.nil)) (.nil)))) (.node 397 acL (.node 376 acO (.node 361 acP (.node 347 acQ (.nil) (.nil)) (.nil)) (.node 390 acM (.node 383 acN (.nil) (.nil)) (.nil))) (.node 452 acI (.node 424 acJ (.node 404 acK (.nil) (.nil)) (.nil)) (.node 487 acG (.node 459 acH (.nil) (.nil)) (.nil))))) (.node 613 acs (.node 556 acz (.node 515 acC (.node 508 acD (.node 501 acE (.nil) (.nil)) (.nil)) (.node 551 acA (.node 522 acB (.nil) (.nil)) (.nil))) (.node 592 acw (.node 570 acx (.node 563 acy (.nil) (.nil)) (.nil)) (.node 606 acu (.node 599 acv (.nil) (.nil)) (.nil)))) (.node 660 acm (.node 641 acp (.node 627 acq (.node 620 acr (.nil) (.nil)) (.nil)) (.node 655 acn (.node 648 aco (.nil) (.nil)) (.nil))) (.node 679 aci (.node 672 acj (.node 665 ack (.nil) (.nil)) (.nil)) (.node 691 acg (.node 684 ach (.nil) (.nil)) (.nil)))))
noncomputable def VX:zU:=⟨145, .node (code (S "get")) (.fn 166) (.node (code (S "in_")) (.fn 173) (.node (code (S "_db")) .own (.nil) (.nil)) (.nil)) (.node (code (S "remove")) (.fn 180) (.node (code (S "set")) (.fn 159) (.nil) (.nil)) (.nil)),[190]⟩
noncomputable def VW:zU:=⟨208, .node (code (S "files")) .own (.node (code (S "name")) (.val (.str (S "MD5Checker"))) (.nil) (.nil)) (.nil),[267,239]⟩
noncomputable def VV:zU:=⟨283, .node (code (S "reasons")) .own (.node (code (S "get_log")) .own (.node (code (S "status")) .own (.nil) (.nil)) (.nil)) (.node (code (S "error_reason")) .own (.node (code (S "add_reason")) (.fn 291) (.nil) (.nil)) (.nil)),[308]⟩
noncomputable def VU:zU:=⟨326, .node (code (S "_closed")) .own (.node (code (S "remove")) (.fn 347) (.node (code (S "_get")) (.fn 340) (.node (code (S "_in")) (.fn 361) (.nil) (.nil)) (.node (code (S "_set")) (.fn 333) (.nil) (.nil))) (.node (code (S "checker")) .own (.node (code (S "backend")) .own (.nil) (.nil)) (.nil))) (.node (code (S "get_status")) (.fn 424) (.node (code (S "get_values")) (.fn 383) (.node (code (S "get_value")) (.fn 390) (.nil) (.nil)) (.node (code (S "get_result")) (.fn 397) (.nil) (.nil))) (.node (code (S "remove_success")) (.fn 404) (.node (code (S "save_success")) (.fn 376) (.nil) (.nil)) (.nil))),[427]⟩
noncomputable def VS:zU:=⟨592, .node (code (S "dep_manager")) .own (.node (code (S "dep_name")) .own (.node (code (S "setup")) (.fn 452) (.node (code (S "tell")) (.fn 627) (.nil) (.nil)) (.node (code (S "get_val")) (.fn 459) (.nil) (.nil))) (.node (code (S "tasks_dict")) .own (.node (code (S "setup_dep")) .own (.nil) (.nil)) (.nil))) (.node (code (S "configure_task")) (.fn 599) (.node (code (S "_result_group")) (.fn 613) (.node (code (S "result_name")) .own (.nil) (.nil)) (.nil)) (.node (code (S "_get_dep_result")) (.fn 620) (.node (code (S "_result_single")) (.fn 606) (.nil) (.nil)) (.nil))),[630,462]⟩
noncomputable def VT:zU:=⟨487, .node (code (S "uptodate")) .own (.node (code (S "targets")) .own (.node (code (S "getargs")) .own (.node (code (S "values")) .own (.node (code (S "name")) .own (.nil) (.nil)) (.node (code (S "result")) .own (.nil) (.nil))) (.node (code (S "execute")) (.fn 570) (.node (code (S "actions")) .own (.nil) (.nil)) (.nil))) (.node (code (S "wild_dep")) .own (.node (code (S "calc_dep")) .own (.node (code (S "options")) .own (.nil) (.nil)) (.node (code (S "file_dep")) .own (.nil) (.nil))) (.node (code (S "executed")) .own (.node (code (S "task_dep")) .own (.nil) (.nil)) (.nil)))) (.node (code (S "init_options")) (.fn 551) (.node (code (S "has_subtask")) .own (.node (code (S "subtask_of")) .own (.node (code (S "_init_deps")) (.fn 494) (.nil) (.nil)) (.node (code (S "dep_changed")) .own (.nil) (.nil))) (.node (code (S "value_savers")) .own (.node (code (S "setup_tasks")) .own (.nil) (.nil)) (.nil))) (.node (code (S "_expand_file_dep")) (.fn 515) (.node (code (S "_init_targets")) (.fn 501) (.node (code (S "_init_getargs")) (.fn 556) (.nil) (.nil)) (.node (code (S "_init_uptodate")) (.fn 508) (.nil) (.nil))) (.node (code (S "save_extra_values")) (.fn 563) (.node (code (S "_expand_task_dep")) (.fn 522) (.nil) (.nil)) (.nil)))),[573]⟩
noncomputable def di:List (Addr×zU):=[(190,VX),(267,VW),(308,VV),(427,VU),(630,VS),(573,VT)]
noncomputable def mf:List (Addr×List AV):=[(633,[.str (S "G:1"), .str (S "G:2"), .str (S "G:3")]),(634,[.str (S "M"), .str (S "G:1"), .str (S "G:2"), .str (S "G:3"), .str (S "Gx"), .str (S "U"), .str (S "V")]),(474,[]),(475,[]),(476,[]),(477,[]),(478,[]),(479,[])]
noncomputable def aR:bA:={fns:=iH,cls:=di,iW:=mf,tags:=[],eqs:=[],ops:=[],eu:=[],dg:=[],ds:=[],jO:=[],kn:=0,pT:=[],spec:=fun _ _ _ _=>none}
end
end
section
open PySem PySem.W PySem.Calls PyProof.Rows PyProof.V PySem.Spec
theorem mem_lookup{l:List (Str×α)}(hn:(l.map (·.1)).Nodup):l.lookup y=some v<->(y,v)∈l:=by
 induction l with
 |nil=>simp
 |cons p r ih=>
  obtain ⟨z,u⟩:=p
  rw [List.map_cons,List.nodup_cons] at hn
  rw [List.lookup_cons,List.mem_cons]
  by_cases q:y=z
  ·subst q
   simp only [beq_self_eq_true,Prod.mk.injEq,true_and]
   refine ⟨fun e=> .inl (aH e).symm,fun e=>?_⟩
   rcases e with rfl | e
   ·rfl
   ·exact absurd (List.mem_map_of_mem (f:=(·.1)) e) hn.1
  ·have:(y==z)=false:=beq_eq_false_iff_ne.mpr q
   rw [this,ih hn.2]
   simp [q]
theorem iw{l:List (Str×α)}(hn:(l.map (·.1)).Nodup)(y:Str):l.reverse.lookup y=l.lookup y:=by
 have hr:(l.reverse.map (·.1)).Nodup:=by refine aa List.map_reverse ?_;exact (List.reverse_perm _).nodup_iff.mpr hn
 refine Option.ext fun v=>?_
 rw [mem_lookup hr,mem_lookup hn,List.mem_reverse]
theorem ph{l:List (Str×Value)}(h:l.lookup y=some v):y∈l.map (·.1):=by
 induction l with
 |nil=>simp at h
 |cons p r ih=>
  obtain ⟨z,u⟩:=p
  rw [List.lookup_cons] at h
  by_cases q:y=z
  ·subst q;simp
  ·have:(y==z)=false:=beq_eq_false_iff_ne.mpr q
   replace h:=this▸h
   rw [List.map_cons,List.mem_cons]
   exact .inr (ih h)
noncomputable def dw:List (Str×NameKind)->List Str
 | []=>[]
 |(x,k)::r=>match k with
  | .cell=>x::dw r
  |_=>dw r
structure Ol where
 name:Str
 params:Arguments
 args:List Arg
 dl:List Expr
 body:List Stmt
 scope:Scope
 dV:Value
 kV:Value
 doc:Value
 pm:Value
 nk:Value
 ct:Value
 oc:Value
 an:Option Addr
 od:Option Addr
 Yk:Array (Option Value)
structure nH(G:Gx)(f:Addr)(fi:eV)(D:Ol):Prop where
 ho:G.K.lookup f=some ⟨D.oc,D.od, .func (fnOf D.name fi.qual D.params D.body D.scope D.dV D.kV D.doc D.pm D.an D.nk D.ct),D.Yk⟩
 Ez:codeIn G.K D.nk fi.qual=true
 hp:D.params=⟨[],D.args,none,[],[],none,D.dl⟩
 UT:fi.params=D.args.map fun a=>code a.arg
 nd:(D.args.map (·.arg)).Nodup
 hc:fi.cells=cellsOf D.scope.names
 kinds:∀x∈D.args.map (·.arg),D.scope.names.lookup x=some .local\/D.scope.names.lookup x=some .cell
 hk:D.scope.kind= .function
 MH:D.scope.isCoroutine=false
 xG:D.scope.isGenerator=false
 NZ:((cellsFrom 0 D.scope.names []).map (·.1)).Nodup
 cl:∀x∈dw D.scope.names,D.scope.names.lookup x≠some .local
 hd:∀W:Wd,∃M6,bE W fi.ki M6/\∀s:Shared,G.K.In s.heap->∀(M:Model) (A:Around) (E:Value->Shared->Prop) (Q:Option (Array Value)->Shared->Prop),(∀o:Option (Array Value),(o.getD #[]).toList=M6->Q o s)->wpAny M A (seqItems? D.dV) Q E s
theorem lC:∀{names:List (Str×NameKind)},cellsOf names=[]->∀x∈names,x.2≠ .cell
 | [],_,x,hx=>zM hx
 |(y,k)::r,h,x,hx=>by
  have hr:cellsOf r=[]/\k≠ .cell:=by
   unfold cellsOf at h
   induction k<;>first | exact ⟨h,by decide⟩ | exact zK h
  rcases gn hx with rfl | hx
  ·exact hr.2
  ·exact lC hr.1 x hx
theorem iF:∀(names:List (Str×NameKind)),cellsOf names=(dw names).map code
 | []=>rfl
 |(x,k)::r=>by induction k<;>first | exact iF r | exact congrArg (code x :: ·) (iF r)
noncomputable def fwd:Nat->List Str->List (Str×Addr)
 |_,[]=>[]
 |n,x::r=>(x,n)::fwd (n+1) r
theorem fC:∀(names:List (Str×NameKind)) (n:Nat) (acc:List (Str×Addr)),cellsFrom n names acc=(fwd n (dw names)).reverse++acc
 | [],n,acc=>rfl
 |(x,k)::r,n,acc=>by
  unfold cellsFrom
  induction k<;>first | exact fC r n acc | (show cellsFrom (n+1) r ((x,n)::acc)=((x,n)::fwd (n+1) (dw r)).reverse++acc;refine aa (fC r ..) (aa (List.reverse_cons ..) (aa (eP ..) ?_));rfl)
theorem lW:∀(n:Nat) (xs:List Str),(fwd n xs).map (·.1)=xs
 |_,[]=>rfl
 |n,x::r=>congrArg (x :: ·) (lW (n+1) r)
theorem mP:∀(n:Nat) (xs:List Str) (p:Str×Addr),p∈fwd n xs->n<=p.2
 |_,[],p,h=>zM h
 |n,x::r,p,h=>by
  rcases gn h with rfl | h
  ·exact Nat.le_refl n
  ·exact Nat.le_of_succ_le (mP (n+1) r p h)
theorem EK:∀(n:Nat) (xs:List Str),((fwd n xs).map (·.2)).Nodup
 |_,[]=>List.nodup_nil
 |n,x::r=>by
  show (n::(fwd (n+1) r).map (·.2)).Nodup
  rw [List.nodup_cons]
  refine ⟨fun h=>?_,EK (n+1) r⟩
  refine ay (nS h) fun p hp e=>?_
  have:=mP _ _ p hp
  omega
theorem qy(ho:o.data= .cell (cm x))(h:CellsAre cm cs cells):CellsAre cm (cs ++ [(x,c)]) (cells ++ [(c,o)]):=by
 induction h with
 |nil=>exact .cons ho .nil
 |cons h _ ih=>exact .cons h ih
theorem ti(h:CellsAre cm cs cells):CellsAre cm cs.reverse cells.reverse:=by
 induction h with
 |nil=>exact .nil
 |cons h _ ih=>refine aa List.reverse_cons (aa List.reverse_cons ?_);exact qy h ih
theorem p7(h:CellsAre cm cs cells):cells.map (·.1)=cs.map (·.2):=by
 induction h with
 |nil=>rfl
 |cons _ _ ih=>exact aa List.map_cons (aa List.map_cons (aa ih rfl))
theorem v9(kind:Str->Option NameKind):∀(bs:List (Str×Value)) (m:Str->Option Value),(bs.map (·.1)).Nodup->∀x,kind x≠some .local->bindC kind bs m x=(bs.lookup x).or (m x)
 | [],m,_,x,_=>rfl
 |(y,v)::r,m,hn,x,hx=>by
  rw [List.map_cons,List.nodup_cons] at hn
  unfold bindC
  refine aa (v9 kind r _ hn.2 x hx) (aa List.lookup_cons ?_)
  by_cases q:x=y
  ·subst q
   have:r.lookup x=none:=by
    generalize e:r.lookup x=bZ;induction bZ with
    |none=>rfl
    |some u=>exact absurd (ph e) hn.1
   refine aa (if_neg hx) (aa this ?_)
   simp
  ·have:(x==y)=false:=beq_eq_false_iff_ne.mpr q
   refine aa this ?_
   dsimp only
   congr 1
   split
   ·rfl
   ·exact if_neg q
theorem v8(kind:Str->Option NameKind):∀(bs:List (Str×Value)) (m:Str->Option Value),(bs.map (·.1)).Nodup->∀x,kind x=some .local->bindL kind bs m x=(bs.lookup x).or (m x)
 | [],m,_,x,_=>rfl
 |(y,v)::r,m,hn,x,hx=>by
  rw [List.map_cons,List.nodup_cons] at hn
  unfold bindL
  refine aa (v8 kind r _ hn.2 x hx) (aa List.lookup_cons ?_)
  by_cases q:x=y
  ·subst q
   have:r.lookup x=none:=by
    generalize e:r.lookup x=ir;induction ir with
    |none=>rfl
    |some u=>exact absurd (ph e) hn.1
   refine aa (if_pos hx) (aa this ?_)
   simp
  ·have:(x==y)=false:=beq_eq_false_iff_ne.mpr q
   refine aa this ?_
   dsimp only
   congr 1
   split
   ·exact if_neg q
   ·rfl
inductive CR(W:Wd):List AO->List (Addr×Obj)->Prop
 |nil:CR W [] []
 |cell {c:Addr} {o:Obj} {u:Value} {v:AV} {B0:List AO} {cs:List (Addr×Obj)}:o.data= .cell (some u)->VR W v u->CR W B0 cs->CR W (.cell v::B0) ((c,o)::cs)
 |cy {c:Addr} {o:Obj} {u:Option Value} {B0:List AO} {cs:List (Addr×Obj)}:o.data= .cell u->CR W B0 cs->CR W (.cy::B0) ((c,o)::cs)
theorem CR.mono(l:W.le W')(h:CR W B0 cs):CR W' B0 cs:=by
 induction h with
 |nil=>exact .nil
 |cell a b _ ih=>exact .cell a (b.mono l) ih
 |cy a _ ih=>exact .cy a ih
theorem vU(rb:KR W binds bs):∀{xs:List Str} {k n:Nat} {cells:List (Addr×Obj)},(∀x∈xs,cm x=bs.lookup x)->CellsAre cm (fwd k xs) cells->CR W (fm binds n (xs.map code)).2 cells
 | [],k,n,cells,_,h=>by cases h;exact .nil
 |x::r,k,n,cells,hm,h=>by
  cases h with
  |cons ho hr=>
   have ih:=vU rb (n:=n+1) (fun y hy=>hm y (fw _ hy)) hr
   have g:=rb.look x
   show CR W (Option.rec .cy AO.cell (ah (code x) binds)::(fm binds (n+1) (r.map code)).2) _
   replace ho:=(hm x cg)▸ho
   generalize hl:ah (code x) binds=ny;induction ny with
   |none=>exact .cy ho ih
   |some v=>
    replace g:=hl▸g
    refine g.someE fun u e1 e2=>?_
    replace ho:=e1▸ho
    exact .cell ho e2 ih
theorem nj:∀{xs:List Str} {n k i:Nat},ah (code x) (fm binds n (xs.map code)).1=some i->∃j,i=n+j/\(fwd k xs).lookup x=some (k+j)/\((fwd k xs).map (·.2))[j]?=some (k+j)
 | [],n,k,i,h=>zS h
 |y::r,n,k,i,h=>by
  have h':ah (code x) ((code y,n)::(fm binds (n+1) (r.map code)).1)=some i:=h
  replace h':=(aI ..)▸h'
  unfold fwd
  refine aa List.lookup_cons ?_
  by_cases q:y=x
  ·subst q
   replace h':=(if_pos rfl)▸h'
   have gg:=aH h';clear h';clear h;subst gg
   exact ⟨0,rfl,by simp,rfl⟩
  ·have q1:¬ code y=code x:=fun e=>q (code_inj e)
   have q2:(x==y)=false:=beq_eq_false_iff_ne.mpr fun e=>q e.symm
   replace h':=(if_neg q1)▸h'
   refine aa q2 ?_
   refine eN (nj (k:=k+1) h') fun j b7 e2 e3=>?_;clear h;subst b7
   refine ⟨j+1,by omega,e2.trans (by congr 1;omega),?_⟩
   refine aa List.map_cons (aa List.getElem?_cons_succ (aa e3 ?_))
   congr 1;omega
theorem ix:∀{l:aL} {v:AV},ah x (fy cells l)=some v->dG x cells=false/\ah x l=some v
 | [],v,h=>zS h
 |(y,u)::r,v,h=>by
  have h':ah x (Bool.rec ((y,u)::fy cells r) (fy cells r) (dG y cells):aL)=some v:=h
  refine aa (aI ..) ?_
  generalize hm:dG y cells=rS;induction rS with
  |true=>
   replace h':=hm▸h'
   refine aM (ix h') fun h1 h2=>?_
   refine ⟨h1,?_⟩
   refine aa (if_neg (fun e=>by rw [e,h1] at hm;exact zT hm)) ?_
   exact h2
  |false=>
   replace h':=hm▸h'
   have jM:ah x ((y,u)::fy cells r)=some v:=h'
   replace jM:=(aI ..)▸jM
   by_cases q:y=x
   ·subst q;rw [if_pos rfl] at jM ⊢;exact ⟨hm,jM⟩
   ·rw [if_neg q] at jM ⊢;exact ix jM
theorem kQ:∀{names:List (Str×NameKind)},names.lookup x=some .cell->x∈dw names
 | [],h=>zS h
 |(y,k)::r,h=>by
  rw [List.lookup_cons] at h
  by_cases q:x=y
  ·subst q
   simp only [beq_self_eq_true] at h
   have gR:=aH h;clear h;subst gR
   exact cg
  ·have q2:(x==y)=false:=beq_eq_false_iff_ne.mpr q
   replace h:=q2▸h
   have:=kQ h
   induction k<;>first | exact this | exact fw _ this
section
theorem oR:∀{B0:List AO} {cs:List (Addr×Obj)} {W:Wd} {σ:St},Rep G h₀ L fz h m W σ->CR W B0 cs->News h₀ L h cs->(cs.map (·.1)).Nodup->(∀p∈W.news fz,∀q∈cs,p.1≠q.1)->
  ∃W',W.le W'/\Rep G h₀ L fz h m W' (aB σ (σ.mem.j8 B0))/\W'.bg=W.bg++cs.map (·.1)
 | [],cs,W,σ,R,hc,_,_,_=>by
  cases hc
  exact ⟨W, .refl _,R,by simp⟩
 |ao::B0,cs,W,σ,R,hc,N,nd,ne=>by
  have key:∃c o r,cs=(c,o)::r/\CR W B0 r/\jD G.prog G.w G.P (W.push c [(c,o)]) c ao [(c,o)]:=by
   cases hc with
   |cell a b hr=>exact ⟨_,_,_,rfl,hr,_,_,rfl,a,b.mono (W.aS _ _)⟩
   |cy a hr=>exact ⟨_,_,_,rfl,hr,_,_,rfl,a⟩
  refine qB key fun c o r cw hr ha=>?_;clear key;clear hc;subst cw
  rw [List.map_cons,List.nodup_cons] at nd
  have ak:=R.uE (o:=ao) (l:=[(c,o)]) R.fr (fun p hp=>by
   rcases List.mem_append.mp hp with hp | hp
   ·refine aa (dU hp) ?_;exact N _ cg
   ·exact R.nw p hp) (fun p hp q hq=>by refine aa (dU hq) ?_;exact ne p hp _ cg) (by simp) ha
  refine eN (oR ak (hr.mono (W.aS _ _)) (fun p hp=>N p (fw _ hp)) nd.2 (fun p hp q hq=>by
   have UW:=(mF W c [(c,o)] fz).mem_iff.mp hp
   rcases List.mem_append.mp UW with UW | UW
   ·refine aa (dU UW) ?_
    exact fun e=>nd.1 (by show c∈_;refine aa (show c=q.1 from e) ?_;exact List.mem_map_of_mem (f:=(·.1)) hq)
   ·exact ne p UW q (fw _ hq))) fun W' le R' e=>?_
  refine ⟨W',(W.aS _ _).trans le,R',?_⟩
  refine aa e ?_
  show (W.bg ++ [c])++_=_
  refine aa (eP ..) ?_;rfl
theorem BC(h:back l fl σ=some (a,aF)):aF=bQ σ l/\((fl= .ret a)\/(fl= .next/\a= .none)):=by
 induction fl<;>first | (refine eO h fun dC dk=>?_;clear h;subst dC dk;exact ⟨rfl, .inl rfl⟩) | (cases h;exact ⟨rfl, .inr ⟨rfl,rfl⟩⟩) | exact zS h
theorem vc{T:At}{σ aY aF:St}{s:Shared}{R:Result->Shared->Prop}(Rp:cv W m σ.loc)(le:W.le W')
  (az:Rep G g L' T.fz h' m' W' aY) (rf:qd W' fl fv) (hb:back σ.loc fl aY=some (a,aF))
  (P:∀W' h' tk v,W.le W'->T.Rep G h' m W' aF->VR W' a v->R (.ok (.ret v)) {s with heap:=h',toks:=tk}):
  LeaveK T.h₀ T.L m g R (match (generalizing:=false) fv with | .ret v=>v | _=> .none) {s with heap:=h',toks:=tk}:=by
 refine aM (BC hb) fun eD hfl=>?_;subst eD
 refine ⟨L',m',W'.news T.fz,az.fr,az.nw,fun F N=>P W' h' tk _ le ⟨F,N,az.nd,az.mem,az.n1,az.n2,az.n3,az.ob,Rp.mono le,az.dat⟩ ?_⟩
 rcases hfl with rfl | ⟨rfl,rfl⟩
 ·refine ay rf fun v fG r=>?_;clear rf;subst fG;exact r
 ·have:fv= .next:=rf
  subst this;rfl
theorem rz{H:we}{f:Addr}(O:nH G f fi D)(hb:BF G n (.fn D.scope.names) (den G.P H fi.body).qw D.body){T:At}(X:G.K.In T.h₀)(B:Below T.A₀ T.base T.outer T.h₀)(TT:Top G.p G.loose G.mean G.mg G.mb T.h₀)
  (hA:A.frames=some (T.aN::T.outer)) (hf:T.aN.frame=some T.L) (Ex:T.aN.scope.kind= .function) (hh:A.handled=none) (hd:A.depth+1+3*n<=900) (hu:A.units+3+20*n<=8000)
  {R:Result->Shared->Prop}
  (Rp:T.Rep G s.heap m W σ) (rp:bE W pos us) (rk:KR W kw kvs) (ev:mU G.P H fi pos kw σ=some (a,aF))
  (P:∀W' h' tk v,W.le W'->T.Rep G h' m W' aF->VR W' a v->R (.ok (.ret v)) {s with heap:=h',toks:=tk}):
  codeAny (model G.prog G.w) A (.call (.ref f) ⟨us,kvs⟩) R s:=by
 refine ab ev fun binds e1 e2=>?_;clear ev
 refine ay (O.hd W) fun M6 rd ME=>?_
 replace e1:=O.UT▸e1
 refine eN (tm (fd:=fnOf D.name fi.qual D.params D.body D.scope D.dV D.kV D.doc D.pm D.an D.nk D.ct) O.hp (fun M A E Q h=>ME s (X.keeps Rp.fr.keep) M A E Q h) rp rd rk e1) fun bs Gd rb sub=>?_
 have nb:=sub.nodup O.nd
 have kb:∀y∈bs,D.scope.names.lookup y.1=some .local\/D.scope.names.lookup y.1=some .cell:=fun y hy=>O.kinds _ (sub.subset (List.mem_map_of_mem (f:=(·.1)) hy))
 generalize dI:fi.cells=tR;induction tR using iM with
 |nil=>
  unfold enter at e2
  replace e2:=dI▸e2
  refine af e2 fun fl aY e3 e4=>?_;clear e2
  have W3:=lC (O.hc.symm.trans dI)
  have nol:∀y,D.scope.names.lookup y≠some .cell:=fun y e=>by
   have:∀(l:List (Str×NameKind)),l.lookup y=some .cell->∃x∈l,x.2= .cell:=by
    intro l
    induction l with
    |nil=>intro e;simp at e
    |cons p r ih=>
     intro e
     rw [List.lookup_cons] at e
     by_cases q:(y==p.1)=true
     ·replace e:=q▸e;exact ⟨p,cg,aH e⟩
     ·replace q:=(Bool.not_eq_true ..)▸q;replace e:=q▸e
      refine ay (ih e) fun x hx ex=>?_
      exact ⟨x,fw _ hx,ex⟩
   refine ay (this _ e) fun x hx ex=>?_
   exact W3 x hx ex
  refine code_def B Rp.fr X Rp.nw TT hA hf Ex O.ho O.Ez (by show A.depth<1000;omega) Gd (fun y hy=>(kb y hy).resolve_right (nol _)) ?_ O.MH O.xG O.hk W3
  intro g L' aq FG F' N' B' X' T'
  let pW:=envOf fi.qual D.scope L' f D.nk
  let dm:At:=⟨A,A.deeper pW,T.base,T.aN::T.outer,g,L',pW,pW,T.fz,⟨[],none⟩⟩
  have ok:dm.Ok G n (.fn D.scope.names) W:=by
   refine ⟨⟨B',X',T',?_,rfl,O.hk,hh,?_,?_⟩,rfl,rfl,fi.qual,D.scope,f,D.nk,[],rfl,rfl,O.hk,?_,fun y e=>absurd e (nol y)⟩
   ·show A.frames.map _=_;refine aa hA ?_;rfl
   ·show A.depth+1+3*n<=900;exact hd
   ·show A.units+3+20*n<=8000;exact hu
   ·intro x i e;exact nomatch e
  have pL:cv W (fun y=>bs.reverse.lookup y) binds:=fun x v e=>by
   have g:=rb.look x
   replace g:=e▸g
   refine g.someE fun u e1 e2=>?_
   exact ⟨u,(iw nb x).trans e1,e2⟩
  have ak:dm.Rep G aq (fun y=>bs.reverse.lookup y) W (bQ σ binds):=⟨F',N',Rp.nd,Rp.mem,Rp.n1,Rp.n2,Rp.n3,Rp.ob,pL,Rp.dat⟩
  refine hb dm W _ (bQ σ binds) {s with heap:=aq,toks:=s.toks+bs.length} fl aY _ _ ok ak e3 fun ae m₂ aJ aG fv ax az rf=>?_
  exact vc (T:=T) (s:=s) Rp.loc ax az rf e4 P
 |cons c cs=>
  have H9:(cj ((den G.P H fi.body).qw ⟨(fm binds σ.mem.n fi.cells).1,none⟩ ⟨fy fi.cells binds,σ.mem.j8 (fm binds σ.mem.n fi.cells).2,σ.nd⟩) (back σ.loc))=some (a,aF):=by
   unfold enter at e2
   rw [dI] at e2 ⊢
   exact e2
  refine af H9 fun fl aY e3 e4=>?_;clear H9
  have cf:∀k,cellsFrom k D.scope.names []=(fwd k (dw D.scope.names)).reverse:=fun k=>by exact aa (fC ..) (aa (List.append_nil ..) rfl)
  have ndc:(dw D.scope.names).Nodup:=by
   have:=O.NZ
   replace this:=(cf ..)▸this;replace this:=(List.map_reverse ..)▸this;replace this:=(lW ..)▸this
   exact (List.reverse_perm _).nodup_iff.mp this
  have hcs:fi.cells=(dw D.scope.names).map code:=O.hc.trans (iF _)
  refine code_defC B Rp.fr X Rp.nw TT hA hf Ex O.ho O.Ez (by show A.depth<1000;omega) Gd (List.all_eq_true.mpr fun y hy=>by
   rcases kb y hy with e | e<;>rw [e]<;>decide) O.NZ ?_ O.MH O.xG O.hk
  intro g L' aq tk cells FG F' N' Y B' X' T' lt
  have Y':CellsAre (bindC (fun y=>D.scope.names.lookup y) bs fun _=>none) (fwd (L'+1) (dw D.scope.names)) cells.reverse:=by
   have:=ti Y
   replace this:=(cf ..)▸this;replace this:=(List.reverse_reverse ..)▸this
   exact this
  have DY:∀x∈dw D.scope.names,D.scope.names.lookup x≠some .local:=O.cl
  have hCR:CR W (fm binds σ.mem.n fi.cells).2 cells.reverse:=by
   refine aa hcs ?_
   refine vU rb (fun x hx=>?_) Y'
   exact aa (v9 _ _ _ nb x (DY x hx)) (aa Option.or_none rfl)
  have pL:cv W (bindL (fun y=>D.scope.names.lookup y) bs fun _=>none) (fy fi.cells binds):=fun x v e=>by
   refine aM (ix e) fun e5 e6=>?_
   have g:=rb.look x
   replace g:=e6▸g
   refine g.someE fun u e7 e8=>?_
   refine ⟨u,?_,e8⟩
   have kx:=kb (x,u) ((mem_lookup nb).mp e7)
   have:D.scope.names.lookup x=some .local:=kx.resolve_right fun e9=>by
    have:dG (code x) fi.cells=true:=by rw [hcs,dF];exact List.mem_map_of_mem (kQ e9)
    replace e5:=this▸e5;exact zF e5
   refine aa (v8 _ _ _ nb x this) (aa e7 ?_);rfl
  have addrs:cells.reverse.map (·.1)=(fwd (L'+1) (dw D.scope.names)).map (·.2):=p7 Y'
  have R₀:Rep G g L' T.fz aq (bindL (fun y=>D.scope.names.lookup y) bs fun _=>none) W (bQ σ (fy fi.cells binds)):=
   ⟨F',fun p hp=>N' p (List.mem_append_right _ hp),Rp.nd,Rp.mem,Rp.n1,Rp.n2,Rp.n3,Rp.ob,pL,Rp.dat⟩
  have big:∀q∈cells.reverse,L'<q.1:=fun q hq=>by
   have:q.1∈cells.reverse.map (·.1):=List.mem_map_of_mem hq
   replace this:=addrs▸this
   refine ay (nS this) fun p hp e=>?_
   have:=mP _ _ p hp
   refine aa (Eq.symm e) ?_;exact this
  obtain ⟨W₁,ag,ak,Lb⟩:=oR R₀ hCR (fun p hp=>N' p (sJ _ (List.mem_reverse.mp hp))) (by refine aa addrs ?_;exact EK _ _)
   (fun p hp q hq=>Nat.ne_of_lt (Nat.lt_trans (lt p hp) (big q hq)))
  let pW:=envOfC fi.qual D.scope L' f D.nk
  let dm:At:=⟨A,A.deeper pW,T.base,T.aN::T.outer,g,L',pW,pW,T.fz,⟨(fm binds σ.mem.n fi.cells).1,none⟩⟩
  have ok:dm.Ok G n (.fn D.scope.names) W₁:=by
   refine ⟨⟨B',X',T',?_,rfl,O.hk,hh,?_,?_⟩,rfl,rfl,fi.qual,D.scope,f,D.nk,cellsFrom (L'+1) D.scope.names [],rfl,rfl,O.hk,?_,fun y e=>cellsFrom_some _ _ _ (.inl e)⟩
   ·show A.frames.map _=_;refine aa hA ?_;rfl
   ·show A.depth+1+3*n<=900;exact hd
   ·show A.units+3+20*n<=8000;exact hu
   ·intro x i e
    have e':ah (code x) (fm binds σ.mem.n ((dw D.scope.names).map code)).1=some i:=by refine aa (Eq.symm hcs) ?_;exact e
    refine eN (nj (k:=L'+1) e') fun j gF e5 e6=>?_;clear e e';subst gF
    refine ⟨L'+1+j,?_,?_⟩
    ·refine aa (Lb ..) (aa (addrs ..) (aa (Eq.symm (Rp.n1 ..)) (aa (List.getElem?_append_right (Nat.le_add_right _ _) ..) (aa (Nat.add_sub_cancel_left ..) ?_))))
     exact e6
    ·refine aa (cf ..) (aa (iw (by rw [lW];exact ndc) ..) ?_);exact e5
  refine hb dm W₁ _ _ {s with heap:=aq,toks:=tk} fl aY _ _ ok ak e3 fun ae m₂ aJ aG fv ax az rf=>?_
  exact vc (T:=T) (s:=s) Rp.loc (ag.trans ax) az rf e4 P
end
noncomputable abbrev HE(C:Addr)(pos:List Value)(kw:List (Str×Value)):Code:= .builtin "type.__call__" ⟨.ref C::pos,kw⟩
theorem D3(A:Around)(C:Addr)(pos:List Value)(kw:List (Str×Value)):(A.under (HE C pos kw)).depth=A.depth+1:=rfl
theorem AD(A:Around)(C:Addr)(pos:List Value)(kw:List (Str×Value)):(A.under (HE C pos kw)).frames=A.frames:=by unfold Around.under;show pushEnvs [] A.frames=_;rfl
theorem xn(A:Around)(C:Addr)(pos:List Value)(kw:List (Str×Value)):(A.under (HE C pos kw)).handled=A.handled:=rfl
theorem D2(A:Around)(C:Addr)(pos:List Value)(kw:List (Str×Value)):(A.under (HE C pos kw)).units<=A.units+17:=by
 show A.units+(HE C pos kw).cUnits<=_
 have:(HE C pos kw).cUnits<=17:=by
  have e:(HE C pos kw).cUnits=(HE 0 [] []).cUnits:=rfl
  refine aa e ?_;decide +kernel
 omega
section
theorem BA(ca:dX G)(O:∀ci fi,ah C G.P.cls=some ci->dH ci.init G.P.fns=some fi->∃D,nH G ci.init fi D/\BF G n (.fn D.scope.names) (den G.P H fi.body).qw D.body)(S:Nz G T.A₀ T.A T.base T.outer T.h₀ T.L T.aN (n+1))
  (Rp:T.Rep G s.heap m W σ) (rp:bE W pos us) (rk:KR W kw kvs) (ev:tj G.P H C pos kw σ=some (a,aF)) (P:gV G T W m aF (fun W u=>VR W a u) Q s):
  wpAny (model G.prog G.w) T.A (call (.ref C) us kvs) Q E s:=by
 refine ab ev fun ci e1 e2=>?_;clear ev
 refine ab e2 fun fi e3 e4=>?_;clear e2
 refine af e4 fun v aY e5 e6=>?_;clear e4
 refine ay (O ci fi e1 e3) fun D FO hb=>?_
 have co:=ca C ci e1
 have hv:v= .none/\a= .o σ.mem.n/\aF=aY:=by
  induction v<;>first | (refine eO e6 fun b7 cw=>?_;clear e6;clear P;subst b7 cw;exact ⟨rfl,rfl,rfl⟩) | exact zS e6
 refine fK hv fun dC dk eD=>?_;clear hv;clear e6;subst dC dk eD
 refine call_cls Rp.fr S.X Rp.nw co.make co.init.1 co.init.2 fun x dx h' F' N' l1 l2=>?_
 have ak:T.Rep G h' m (W.push x [(x,instObj C dx),(dx,dictOf [] 0)]) (aB σ (σ.mem.push (.inst C []))):=
  Rp.push F' N' (fun p hp q hq=>by
   rcases gn hq with rfl | hq
   ·exact Nat.lt_trans (l1 p hp) l2
   ·refine aa (dU hq) ?_;exact l1 p hp) (by simp;exact fun e=>absurd e.symm (Nat.ne_of_lt l2)) ⟨dx,[],0,ci,rfl, .nil,e1,fun x v e=>zS e⟩
 have ag:=W.aS x [(x,instObj C dx),(dx,dictOf [] 0)]
 have hd:=S.hd
 have hu:=S.hu
 have mu:=D2 T.A C us kvs
 refine rz FO hb (T:=T) (A:=T.A.under (HE C us kvs)) S.X S.B S.T ((AD _ _ _ _).trans S.hA) S.hf S.Ex ((xn _ _ _ _).trans S.hh) (by refine aa (D3 ..) ?_;omega) (by omega) (s:={s with heap:=h'}) (pos:= .o σ.mem.n::pos) ak ⟨Rp.eE _ _,rp.mono ag⟩ (rk.mono ag) e5 ?_
 intro W' aJ tk v ax az aV
 refine ⟨aV,P W' aJ tk _ (ag.trans ax) az ?_⟩
 exact (Rp.eE x _).mono ax
end
theorem BB(h:(Bool.rec none r b:Option α)=some a):b=true/\r=some a:=by
 induction b with
 |false=>exact zS h
 |true=>exact ⟨rfl,h⟩
theorem Ce(h:two l f=some c):∃a b,l=[a,b]/\f a b=some c:=by
 match l,h with
 | [a,b],h=>exact ⟨a,b,rfl,h⟩
theorem zh{ob:Obj}(h:ob.IsDictOf (strKind prog w) kvs):ob.cls= .type "dict" :=let ⟨_,_,h,_⟩:=h;h.1
structure FT(G:Gx):Prop where
 out:∀C,clsIn C G.P.cls=true->isNotIn G.K "NoneType" C=true/\isNotIn G.K "bool" C=true/\isNotIn G.K "str" C=true
 ty:∀D ci,ah D G.P.cls=some ci->(∀t:Ty,t= .list\/t= .dict\/t= .str\/t= .tuple\/t= .bool->kin_notT G.K D (Cd t)=true)/\plainGet G.K D "__class__" =true/\hasDictIn G.K D=true/\findIn G.K (.ref D) "__class__" =some (some (.builtin "object.__class__"))/\
  specialIn G.K (.builtin "object.__class__") "__get__" =some (some (.builtin "getset_descriptor.__get__"))/\takesIn G.K (.builtin "object.__class__")=some true/\mroIn G.K D (.type "object")=some true
 inn:∀D ci,ah D G.P.cls=some ci->∀C,dG C ci.mro=true->isIn G.K (.ref D) C=true
section
theorem yU(e:mK .str t=b)(ht:t= .list\/t= .dict\/t= .str\/t= .tuple\/t= .bool)(q:∀tk,Q (.bool b) {s with toks:=tk}):wpAny (model prog w) A (call (.builtin "isinstance") [.str x u, .type (Cd t)]) Q E s:=by
 subst e
 rcases ht with rfl | rfl | rfl | rfl | rfl
 ·exact IsiPair.str_list (q _)
 ·exact IsiPair.str_dict (q _)
 ·exact IsiPair.str_str (q s.toks)
 ·exact IsiPair.str_tuple (q _)
 ·exact IsiPair.str_bool (q _)
theorem Ei(e:mK .bool t=b)(ht:t= .list\/t= .dict\/t= .str\/t= .tuple\/t= .bool)(q:∀tk,Q (.bool b) {s with toks:=tk}):wpAny (model prog w) A (call (.builtin "isinstance") [.bool x, .type (Cd t)]) Q E s:=by
 subst e
 rcases ht with rfl | rfl | rfl | rfl | rfl
 ·exact IsiPair.bool_list (q _)
 ·exact IsiPair.bool_dict (q _)
 ·exact IsiPair.bool_str (q _)
 ·exact IsiPair.bool_tuple (q _)
 ·exact IsiPair.bool_bool (q s.toks)
theorem vf(ht:t= .list\/t= .dict\/t= .str\/t= .tuple\/t= .bool)(q:∀tk,Q (.bool false) {s with toks:=tk}):wpAny (model prog w) A (call (.builtin "isinstance") [.none, .type (Cd t)]) Q E s:=by
 rcases ht with rfl | rfl | rfl | rfl | rfl
 ·exact IsiPair.NoneType_list (q _)
 ·exact IsiPair.NoneType_dict (q _)
 ·exact IsiPair.NoneType_str (q _)
 ·exact IsiPair.NoneType_tuple (q _)
 ·exact IsiPair.NoneType_bool (q _)
theorem Eh(hx:s.heap.get? a=some o)(hc:o.cls= .type "list") (e:mK .list t=b) (ht:t= .list\/t= .dict\/t= .str\/t= .tuple\/t= .bool) (q:∀tk,Q (.bool b) {s with toks:=tk}):wpAny (model prog w) A (call (.builtin "isinstance") [.ref a, .type (Cd t)]) Q E s:=by
 subst e
 rcases ht with rfl | rfl | rfl | rfl | rfl
 ·exact IsiPair.list_list hx hc (q s.toks)
 ·exact IsiPair.list_dict hx hc (q _)
 ·exact IsiPair.list_str hx hc (q _)
 ·exact IsiPair.list_tuple hx hc (q _)
 ·exact IsiPair.list_bool hx hc (q _)
theorem vg(hx:s.heap.get? a=some o)(hc:o.cls= .type "dict") (e:mK .dict t=b) (ht:t= .list\/t= .dict\/t= .str\/t= .tuple\/t= .bool) (q:∀tk,Q (.bool b) {s with toks:=tk}):wpAny (model prog w) A (call (.builtin "isinstance") [.ref a, .type (Cd t)]) Q E s:=by
 subst e
 rcases ht with rfl | rfl | rfl | rfl | rfl
 ·exact IsiPair.dict_list hx hc (q _)
 ·exact IsiPair.dict_dict hx hc (q s.toks)
 ·exact IsiPair.dict_str hx hc (q _)
 ·exact IsiPair.dict_tuple hx hc (q _)
 ·exact IsiPair.dict_bool hx hc (q _)
theorem yT(hx:s.heap.get? a=some o)(hc:o.cls= .type "tuple") (e:mK .tuple t=b) (ht:t= .list\/t= .dict\/t= .str\/t= .tuple\/t= .bool) (q:∀tk,Q (.bool b) {s with toks:=tk}):wpAny (model prog w) A (call (.builtin "isinstance") [.ref a, .type (Cd t)]) Q E s:=by
 subst e
 rcases ht with rfl | rfl | rfl | rfl | rfl
 ·exact IsiPair.tuple_list hx hc (q _)
 ·exact IsiPair.tuple_dict hx hc (q _)
 ·exact IsiPair.tuple_str hx hc (q _)
 ·exact IsiPair.tuple_tuple hx hc (q s.toks)
 ·exact IsiPair.tuple_bool hx hc (q _)
end
section
theorem AQ(io:FT G){T:At}{m:Str->Option Value}(ok:T.Ok G n b W)(R:T.Rep G s.heap m W σ)(hv:VR W x v)(hu:VR W c u)
  (e:sQ G.P σ.mem x c=some r) (q:∀tk,Q (.bool r) {s with toks:=tk}):wpAny (model G.prog G.w) T.A (call (.builtin "isinstance") [v,u]) Q E s:=by
 have X:=ok.gL.X.keeps R.fr.keep
 induction c with
 |ty t=>
  subst hu
  refine aM (BB e) fun e0 e=>?_
  have ht:t= .list\/t= .dict\/t= .str\/t= .tuple\/t= .bool:=by induction t<;>first | exact .inl rfl | exact .inr (.inl rfl) | exact .inr (.inr (.inl rfl)) | exact .inr (.inr (.inr (.inl rfl))) | exact .inr (.inr (.inr (.inr rfl))) | exact zT e0
  ·induction x with
   |none=>subst hv;have cZ:=aH e;clear e;clear e;subst cZ;exact vf ht q
   |bool y=>subst hv;exact Ei (aH e) ht q
   |str y=>refine VR.eB hv fun _=>?_;clear hv;exact yU (aH e) ht q
   |o i=>
    refine ab e fun o e1 e2=>?_;clear e
    induction o with
    |list xs=>
     refine R.cY e1 hv fun a vs k _ _ _ dC _=>?_;clear e1 hv;obtain ⟨o,h1,h2,_⟩:=dC
     exact Eh h1 h2 (aH e2) ht q
    |tup xs=>
     refine R.pE e1 hv fun a vs _ eD=>?_;clear e1 hv;obtain ⟨o,h1,h2,_⟩:=eD
     exact yT h1 h2 (aH e2) ht q
    |dict es=>
     refine eL (R.xx e1 hv) fun a ob kvs fG _ _ hm hd _=>?_;clear hv;subst fG
     exact vg (R.nw _ hm).1 (zh hd) (aH e2) ht q
    |inst D fs=>
     have dq:=aH e2;clear e2;subst dq
     refine R.En e1 hv fun a dx es k ci _ _ I _ hc _=>?_;clear e1 hv
     refine NI (io.ty D ci hc) fun k0 k1 k2 k3 k4 k5 k6=>?_
     have hty:typeOf (.type (Cd t))=pure (.type "type"):=by rcases ht with rfl | rfl | rfl | rfl | rfl<;>kernel_rfl
     exact kin_callT X I (k0 t ht) hty k1 k2 k3 k4 k5 k6 (q _)
    |_=>exact zS e2
   |d i=>
    have tg:=R.dat.tag i v hv
    have e':tyD (bN G.P i) t=some r:=e
    generalize hg:bN G.P i=bZ;induction bZ with
    |none=>replace tg:=hg▸tg;replace e':=hg▸e';cases (tg:v= .none);have dp:=aH e';clear e';clear e;subst dp;exact vf ht q
    |str z=>replace tg:=hg▸tg;replace e':=hg▸e';refine iJ (tg:∃s u,v= .str s u/\z=full s.cps.toList/\s.cps.toList.length<=900) fun _ _ gg _=>?_;clear hv;subst gg;exact yU (aH e') ht q
    |dict b=>
     replace tg:=hg▸tg;replace e':=hg▸e'
     refine mj (tg:∃a ob kvs,v= .ref a/\(a,ob)∈W.fx/\ob.IsDictOf (strKind G.prog G.w) kvs/\(a==sysModules)=false/\(!kvs.isEmpty)=b/\kvs.length<=900) fun a ob kvs gR hm hd _=>?_;clear hv;subst gR
     exact vg (R.nw _ (fT hm)).1 (zh hd) (aH e') ht q
    |tuple=>
     replace tg:=hg▸tg;replace e':=hg▸e'
     refine ID (tg:∃a ob vs n,v= .ref a/\(a,ob)∈W.fx/\ob.cls= .type "tuple" /\ob.data= .seq (List.toArray vs) n/\vs≠[]/\vs.length<=900) fun a ob vs k cW hm hc _=>?_;clear hv;subst cW
     exact yT (R.nw _ (fT hm)).1 hc (aH e') ht q
    |_=>replace e':=hg▸e';exact zS e'
   |_=>exact zS e
 |k C=>
  subst hu
  induction x with
  |none=>
   subst hv
   refine aM (BB e) fun e1 e2=>?_
   have fQ:=aH e2;clear e2;clear e;subst fQ
   exact isn_call (P:=fun _=>True) X (fun M=>Looks.of_pure rfl) (io.out C e1).1 (by intro e;cases e) trivial none_cls (q _)
  |bool y=>
   subst hv
   refine aM (BB e) fun e1 e2=>?_
   have eX:=aH e2;clear e2;clear e;subst eX
   exact isn_call (P:=fun _=>True) X (fun M=>Looks.of_pure rfl) (io.out C e1).2.1 (by intro e;cases e) trivial bool_cls (q _)
  |str y=>
   refine VR.eB hv fun _=>?_;clear hv
   refine aM (BB e) fun e1 e2=>?_
   have fO:=aH e2;clear e2;clear e;subst fO
   exact isn_call (P:=fun _=>True) X (fun M=>Looks.of_pure rfl) (io.out C e1).2.2 (by intro e;cases e) trivial str_cls (q _)
  |o i=>
   refine ab e fun o e1 e2=>?_;clear e
   induction o with
   |inst D fs=>
    refine ab e2 fun ci e3 e4=>?_;clear e2
    refine aM (BB e4) fun e5 e6=>?_
    have eW:=aH e6;clear e6;clear e4;subst eW
    refine adF (R.inst e1 hv) fun a dx es k ci' dQ _ _ I _=>?_;clear hv;subst dQ
    exact isi_call X (fun M=>InstAt.type I) (io.inn D ci e3 C e5) (by intro e;cases e) (q s.toks)
   |_=>exact zS e2
  |_=>exact zS e
 |_=>exact zS e
end
section
theorem Mn{T:At}(R:T.Rep G s.heap m W σ)(hv:VR W x v)
  (e:Mo σ.mem x=some k) (q:∀t tk,Q (.int k t) {s with toks:=tk}):wpAny (model G.prog G.w) T.A (call (.builtin "len") [v]) Q E s:=by
 induction x with
 |o i=>
  refine ab e fun o e1 e2=>?_;clear e
  induction o with
  |list xs=>
   refine au e2 fun e3 e4=>?_;clear e2
   have dp:=aH e4;clear e4;subst dp
   refine R.cY e1 hv fun a vs c _ _ r hl _=>?_;clear e1 hv
   refine Calls.call_len_list hl (r.small e3) ?_
   have:vs.toArray.size=xs.length:=by exact aa List.size_toArray (aa r.length rfl)
   refine aa this ?_;exact q _ _
  |tup xs=>
   refine au e2 fun e3 e4=>?_;clear e2
   have fQ:=aH e4;clear e4;subst fQ
   refine R.pE e1 hv fun a vs r ht=>?_;clear e1 hv
   refine len_tuple ht (r.small e3) ?_
   have:vs.toArray.size=xs.length:=by exact aa List.size_toArray (aa r.length rfl)
   refine aa this ?_;exact q _ _
  |dict es=>
   refine au e2 fun e3 e4=>?_;clear e2
   have eX:=aH e4;clear e4;subst eX
   refine R.dP e1 hv fun a ob kvs _ _ hm hd dr lo=>?_;clear e1 hv
   refine kda_len R.nw hm hd lo (by refine aa (Eq.symm dr.length) ?_;omega) ?_
   refine aa (Eq.symm dr.length) ?_;exact q _ _
  |_=>exact zS e2
 |_=>exact zS e
theorem pq:∀{es:bk} {kvs:List (Str×Value)} {W:Wd},DR W es kvs->∀{C:List Value->Prop},(∀vs,bE W (keysOf es) vs->C vs)->KdlKeysS kvs C
 |_,_,W, .nil,C,h=>h [] trivial
 |_,_,W, .cons (x:=x) _ r,C,h=>fun t=>pq r fun vs hvs=>h _ ⟨⟨t,rfl⟩,hvs⟩
theorem abe{T:At}(R:T.Rep G h m W σ)(F:Fr T.h₀ T.L h' m)(N:News T.h₀ T.L h' ((D,listOf vs.toArray c)::W.news T.fz))(lt:∀q∈W.news T.fz,q.1<D)(r:bE W xs vs):
  T.Rep G h' m (W.push D [(D,listOf vs.toArray c)]) (aB σ (σ.mem.push (.list xs)))/\VR (W.push D [(D,listOf vs.toArray c)]) (.o σ.mem.n) (.ref D):=
 ⟨Rep.push R F N (fun p hp q hq=>by refine aa (dU hq) ?_;exact lt p hp) (by simp) ⟨vs,c,rfl,r.mono (W.aS _ _)⟩,Rep.eE R _ _⟩
theorem HI(gk:qi G)(ok:T.Ok G n b W)(R:T.Rep G s.heap m W σ)(hv:VR W x v)
  (e:(ob (IU G.P σ.mem x) fun xs=>short xs (jX (.list xs) σ))=some (a,aF)) (P:gV G T W m aF (fun W u=>VR W a u) Q s):wpAny (model G.prog G.w) T.A (call (.type "list") [v]) Q E s:=by
 refine ab e fun xs e1 e2=>?_;clear e
 refine au e2 fun e3 e4=>?_;clear e2
 refine dS e4 fun dk eD=>?_;clear e4;subst dk eD
 have fit:∀{vs:List Value},bE W xs vs->vs.toArray.size<=sizeLine:=fun r=>by refine aa List.size_toArray (aa (Eq.symm r.length) (aa sizeLine_eq ?_));omega
 have fin:∀{vs:List Value},bE W xs vs->∀(D c:Nat) h' tk,Fr T.h₀ T.L h' m->News T.h₀ T.L h' ((D,listOf vs.toArray c)::W.news T.fz)->(∀q∈W.news T.fz,q.1<D)->Q (.ref D) {s with heap:=h',toks:=tk}:=fun r D c h' tk F N lt=>by
  refine aM (abe R F N lt r) fun ak aK=>?_
  exact P _ h' tk _ (W.aS _ _) ak aK
 induction x with
 |k c=>
  subst hv
  refine ay (nT gk ok R e1) fun vs r ht=>?_
  exact list_copyKT R.fr R.nw ht (fun D c h' F N lt=>fin r D c h' s.toks F N lt) (fit r)
 |o i=>
  refine ab e1 fun o e5 e6=>?_;clear e1
  induction o with
  |list ys=>
   have fO:=aH e6;clear e6;clear e3 P;subst fO
   refine R.cY e5 hv fun l vs c _ _ r hl _=>?_;clear e5 hv
   exact list_copyK R.fr R.nw hl (fun D c h' F N lt=>fin r D c h' s.toks F N lt) (fit r)
  |tup ys=>
   have eW:=aH e6;clear e6;clear e3 P;subst eW
   refine R.pE e5 hv fun l vs r ht=>?_;clear e5 hv
   exact list_copyKT R.fr R.nw ht (fun D c h' F N lt=>fin r D c h' s.toks F N lt) (fit r)
  |keys j=>
   refine ab e6 fun o e7 e8=>?_;clear e6
   induction o with
   |dict es=>
    refine au e8 fun e9 Gg=>?_;clear e8
    have gh:=aH Gg;clear Gg;clear e3 P fit;subst gh
    obtain ⟨l,ll,rfl,g1,g2,d,g3,rfl⟩:=R.xY e5 hv
    refine R.yX e7 ⟨d,g3,rfl⟩ fun d' ob kvs g4 g5 g6 hm hd dr lo=>?_;clear e7
    cases g4
    refine kdl_list_viewS ok.gL.hh R.fr R.nw (cD (fz:=T.fz) g2 cg) hm hd (by refine aa (Eq.symm dr.length) ?_;omega) fun B c h' tk=>pq dr fun vs r F N lt=>?_
    exact fin r B c h' tk F N lt
   |_=>exact zS e8
  |_=>exact zS e6
 |_=>exact zS e1
theorem Ck(R:T.Rep G s.heap m W σ)(hv:VR W x v)
  (e:(ob (It σ.mem x) fun p=>short p.2 (jX (.tup p.2) σ))=some (a,aF)) (P:gV G T W m aF (fun W u=>VR W a u) Q s):wpAny (model G.prog G.w) T.A (call (.type "tuple") [v]) Q E s:=by
 refine ab e fun p e1 e2=>?_;clear e
 refine au e2 fun e3 e4=>?_;clear e2
 refine dS e4 fun gg gR=>?_;clear e4;subst gg gR
 refine aM (ma e1) fun cW e5=>?_;clear e1;subst cW
 refine R.cY e5 hv fun l vs c _ _ r hl _=>?_;clear e5 hv
 refine kde_tupleOf R.fr R.nw hl (by refine aa List.size_toArray (aa (Eq.symm r.length) ?_);omega) (zs:=vs) (by simp) fun D h' F N lt=>?_
 exact P _ h' s.toks _ (W.aS _ _) (Rep.push R F N (fun p hp q hq=>by refine aa (dU hq) ?_;exact lt p hp) (by simp) ⟨vs,_,_,rfl,rfl,rfl,r.mono (W.aS _ _)⟩) (Rep.eE R _ _)
theorem Dt(R:T.Rep G s.heap m W σ)(hv:VR W x v)
  (e:(ob (Dv x) fun n=>jX (.range n) σ)=some (a,aF)) (P:gV G T W m aF (fun W u=>VR W a u) Q s):wpAny (model G.prog G.w) T.A (call (.type "range") [v]) Q E s:=by
 refine ab e fun k e1 e2=>?_;clear e
 refine dS e2 fun dQ cZ=>?_;clear e2;subst dQ cZ
 induction x with
 |int i=>
  refine VR.mM hv fun t=>?_;clear hv
  induction i with
  |ofNat j=>
   refine aM (BB e1) fun e3 e4=>?_
   cases e4
   have hj:=zd e3
   refine call_range_1 ?_
   exact P _ _ _ _ (W.aS _ _) (R.alloc (h:=s.heap) {cls:= .type "range",data:= .fields #[.int 0 s.toks, .int k t, .int 1 (s.toks+1)]} (.range k) rfl ⟨hj,_,s.toks,t,s.toks+1,rfl,fun h e=>e⟩) (Rep.eE R _ _)
  |negSucc j=>exact zS e1
 |_=>exact zS e1
end
noncomputable def J7(G:Gx):Prop:=∀f fi,dH f G.P.fns=some fi->∃D,nH G f fi D/\fi.body=tO G.gl (.fn D.scope.names) D.body
noncomputable def tF(G:Gx)(N:Nat):Prop:=∀(n:Nat) (f:Addr) (fi:eV) (pos:List AV) (σ:St) (z:AV×Mem×Nat),N<n->dH f G.P.fns=some fi->G.P.spec f pos σ.mem σ.nd=some z->∀(T:At) (b:gf) (W:Wd) (m:Str->Option Value) (s:Shared) (us:List Value) (Q:Value->Shared->Prop) (E:Value->Shared->Prop),
 T.Ok G n b W->T.Rep G s.heap m W σ->bE W pos us->gV G T W m ⟨σ.loc,z.2.1,z.2.2⟩ (fun W u=>VR W z.1 u) Q s->wpAny (model G.prog G.w) T.A (call (.ref f) us []) Q E s
noncomputable def BodyOk(G:Gx):Prop:=∀(n:Nat) (H:we),SH G n H->∀(b:gf) (body:List Stmt),BF G n b (den G.P H (tO G.gl b body)).qw body
structure j6(G:Gx)(N:Nat):Prop where
 gk:qi G
 ca:dX G
 io:FT G
 fo:J7 G
 sp:tF G N
theorem nU(O:nH G f fi D):keepIn G.K (.ref f)=true:=by
 unfold keepIn
 dsimp only
 exact aa O.ho rfl
theorem GW(ga:j6 G N)(bo:BodyOk G)(hN:N<=n)(hH:SH G n H):SH G (n+1) (JA G.P H):=by
 refine ⟨fun f pos kw σ r e W v hv h X=>?_,fun T b W m σ s f pos kw v vs kvs a aF Q E ok R hv rp rk e P=>?_⟩
 ·induction f with
  |k a=>
   subst hv
   refine keeps_K ?_ h X
   have e':vY G.P H a pos kw σ=some r:=e
   unfold vY at e'
   generalize hf:dH a G.P.fns=bZ;induction bZ with
   |some fi=>refine ay (ga.fo a fi hf) fun D O _=>?_;exact nU O
   |none=>
    replace e':=hf▸e'
    refine ab (show tj G.P H a pos kw σ=some r from e') fun ci e1 _=>?_
    exact (ga.ca a ci e1).keep
  |bi t=>subst hv;exact ⟨.machine, .inr (.inl rfl),Looks.of_pure rfl⟩
  |ty t=>subst hv;exact ⟨.machine, .inr (.inl rfl),Looks.of_pure rfl⟩
  |_=>exact zS e
 ·induction f with
  |k c=>
   subst hv
   have e':vY G.P H c pos kw σ=some (a,aF):=e
   unfold vY at e'
   generalize hf:dH c G.P.fns=ir;induction ir with
   |some fi=>
    replace e':=hf▸e'
    generalize hs:G.P.spec c pos σ.mem σ.nd=ny;induction ny with
    |some z=>
     have e2:oZ kw (some (z.1,⟨σ.loc,z.2.1,z.2.2⟩))=some (a,aF):=by
      have e3:(Option.rec (mU G.P H fi pos kw σ) (fun z=>oZ kw (some (z.1,⟨σ.loc,z.2.1,z.2.2⟩))) (G.P.spec c pos σ.mem σ.nd):Mine.R AV)=some (a,aF):=e'
      replace e3:=hs▸e3;exact e3
     refine aM (jJ e2) fun b7 e4=>?_;subst b7
     refine eO e4 fun cw dC=>?_;clear e4;clear e e' e2;subst cw dC
     cases rk.isNil
     exact ga.sp (n+1) c fi pos σ z (Nat.lt_succ_of_le hN) hf hs T b W m s vs Q E ok R rp P
    |none=>
     have e2:mU G.P H fi pos kw σ=some (a,aF):=by
      have e3:(Option.rec (mU G.P H fi pos kw σ) (fun z=>oZ kw (some (z.1,⟨σ.loc,z.2.1,z.2.2⟩))) (G.P.spec c pos σ.mem σ.nd):Mine.R AV)=some (a,aF):=e'
      replace e3:=hs▸e3;exact e3
     refine ay (ga.fo c fi hf) fun D O hb=>?_
     have S:=ok.gL
     have hd:=S.hd
     have hu:=S.hu
     refine wpAny_call ?_
     exact rz O (hb▸bo n H hH _ _) (T:=T) (A:=T.A) S.X S.B S.T S.hA S.hf S.Ex S.hh (by omega) (by omega) R rp rk e2 fun W' h' tk v le R' r=>P W' h' tk v le R' r
   |none=>
    replace e':=hf▸e'
    refine BA ga.ca (fun ci fi h1 h2=>?_) ok.gL R rp rk (show tj G.P H c pos kw σ=some (a,aF) from e') P
    refine ay (ga.fo _ fi h2) fun D O hb=>?_
    exact ⟨D,O,hb▸bo n H hH _ _⟩
  |bi t=>
   subst hv
   refine aM (jJ (show oZ kw (JB G.P t pos σ)=some (a,aF) from e)) fun dk e2=>?_;subst dk
   cases rk.isNil
   induction t with
   |isinstance=>
    refine b9 (show ret σ (two pos fun x c=>ob (sQ G.P σ.mem x c) fun b=>some (.bool b))=some (a,aF) from e2) fun e3 eD=>?_;subst eD
    refine iJ (Ce e3) fun x c fG e4=>?_;subst fG
    refine ab e4 fun r e5 e6=>?_;clear e4
    have dQ:=aH e6;clear e6;clear e2 e e3;subst dQ
    refine rp.Ci fun u v h1 h2=>?_;clear rp
    exact AQ ga.io ok R h1 h2 e5 fun tk=>P W s.heap tk _ (.refl _) R rfl
   |len=>
    refine b9 (show ret σ (ob (one pos) fun x=>ob (Mo σ.mem x) fun n=>some (.int n))=some (a,aF) from e2) fun e3 gg=>?_;subst gg
    refine ab e3 fun x e4 e5=>?_;clear e3
    refine ab e5 fun k e6 e7=>?_;clear e5
    have cZ:=aH e7;clear e7;subst cZ
    cases dD e4
    refine rp.Hw fun u h1=>?_;clear rp
    exact Mn R h1 e6 fun t tk=>P W s.heap tk _ (.refl _) R ⟨t,rfl⟩
  |ty t=>
   subst hv
   refine aM (jJ (show oZ kw (Jz G.P t pos σ)=some (a,aF) from e)) fun cW e2=>?_;subst cW
   cases rk.isNil
   refine ab e2 fun x e4 e5=>?_;clear e2
   cases dD e4
   refine rp.Hw fun u h1=>?_;clear rp
   induction t with
   |list=>exact HI ga.gk ok R h1 e5 P
   |tuple=>exact Ck R h1 e5 P
   |range=>exact Dt R h1 e5 P
   |_=>exact zS e5
  |_=>exact zS e
theorem CS(ga:j6 G N)(bo:BodyOk G):∀n,SH G (n+N) (cH G.P n)
 | 0=>⟨fun _ _ _ _ _ e=>(zS e),fun _ _ _ _ _ _ _ _ _ _ _ _ _ _ _ _ _ _ _ _ _ e=>zS e⟩
 |n+1=>by refine aa (Nat.add_right_comm ..) ?_;exact GW ga bo (Nat.le_add_left N n) (CS ga bo n)
section
theorem ug:SE G n b uV e:=fun _ _ _ _ _ _ _ _ _ _ _ ev=>zS ev
theorem CK:zQ G n b uU e:=fun _ _ _ _ _ _ _ _ _ _ _ ev=>zS ev
variable (G n H) in
noncomputable def dz(b:gf)(e:Expr):Prop:=SE G n b (den G.P H (cE G.gl b e)).ev e/\zQ G n b (den G.P H (cE G.gl b e)).ts e
theorem fU(h:cE G.gl b e= .bad):dz G n H b e:=by unfold dz;refine aa h ?_;exact ⟨ug,CK⟩
theorem l3(h:cE G.gl b e=cond c t .bad)(k:c=true->cE G.gl b e=t->dz G n H b e):dz G n H b e:=by
 induction c with
 |true=>exact k rfl h
 |false=>exact fU h
theorem gP(tr:eI G)(h:cE G.gl b e=t)(hd:den G.P H t=kN G.P f)(hf:SE G n b f e)(he:∀env whole,isTrue e env whole=(do let v <-whole;standAt e.pos;holding [v] (truthy v))):dz G n H b e:=by
 unfold dz;refine aa h (aa hd ?_);exact ⟨hf,CJ tr hf he⟩
theorem kA:∀{es:List Expr},(∀e∈es,dz G n H b e)->Gk G n b (den G.P H (gz G.gl b es)).sX es/\((∃T cx σ r,(den G.P H (gz G.gl b es)).sX cx σ=some r/\T=true)->aZ es=true)
 | [],_=>⟨GX,fun _=>rfl⟩
 |e::r,h=>by
  have hr:=kA (es:=r) fun x hx=>h x (fw _ hx)
  have he:=h e cg
  have hc:gz G.gl b (e::r)=cond (isStar e) .bad (.cons (cE G.gl b e) (gz G.gl b r)):=rfl
  refine aa hc ?_
  generalize hs:isStar e=bZ;induction bZ with
  |true=>exact ⟨fun _ _ _ _ _ _ _ _ _ _ _ _ ev=>(zS ev),fun ⟨_,_,_,_,e,_⟩=>zS e⟩
  |false=>
   refine ⟨CU hs he.1 hr.1,fun ⟨T,cx,σ,q,e,z⟩=>?_⟩
   refine af (show cj ((den G.P H (cE G.gl b _)).ev cx σ) (fun a σ=>cj ((den G.P H (gz G.gl b r)).sX cx σ) fun as σ=>some (a::as,σ))=some q from e) fun c aE e1 e2=>?_
   refine af e2 fun cs aY e3 e4=>?_;clear e2
   show (!isStar _&&aZ r)=true
   refine aa hs (aa (hr.2 ⟨T,cx,aE,_,e3,z⟩) ?_);rfl
theorem JK:∀{es:List Expr},(∀e∈es,dz G n H b e)->Wq G n b op ((den G.P H (gz G.gl b es)).al op) es
 | [],_=>Nv
 |e::r,h=>by
  have hr:=JK (op:=op) (es:=r) fun x hx=>h x (fw _ hx)
  have he:=h e cg
  have hc:gz G.gl b (e::r)=cond (isStar e) .bad (.cons (cE G.gl b e) (gz G.gl b r)):=rfl
  refine aa hc ?_
  generalize hs:isStar e=ir;induction ir with
  |true=>exact fun _ _ _ _ _ _ _ _ _ _ _ ev=>zS ev
  |false=>exact Iu he.2 hr
theorem JD(tr:eI G):∀{es:List Expr},(∀e∈es,dz G n H b e)->Wo G n b op ((den G.P H (gz G.gl b es)).bo op) es
 | [],_=>fun _ _ _ _ _ _ _ _ _ _ _ _ ev=>zS ev
 | [e],h=>by
  have he:=h e cg
  have hc:gz G.gl b [e]=cond (isStar e) .bad (.cons (cE G.gl b e) .nil):=rfl
  refine aa hc ?_
  generalize hs:isStar e=ny;induction ny with
  |true=>exact fun _ _ _ _ _ _ _ _ _ _ _ _ ev=>zS ev
  |false=>exact Nk he.1
 |e::e'::r,h=>by
  have hr:=JD tr (op:=op) (es:=e'::r) fun x hx=>h x (fw _ hx)
  have he:=h e cg
  have hc:gz G.gl b (e::e'::r)=cond (isStar e) .bad (.cons (cE G.gl b e) (gz G.gl b (e'::r))):=rfl
  have HV:gz G.gl b (e'::r)=cond (isStar e') .bad (.cons (cE G.gl b e') (gz G.gl b r)):=rfl
  refine aa hc ?_
  generalize hs:isStar e=rS;induction rS with
  |true=>exact fun _ _ _ _ _ _ _ _ _ _ _ _ ev=>zS ev
  |false=>
   have hn:isNil (gz G.gl b (e'::r))=false:=by refine aa HV ?_;cases isStar e'<;>rfl
   show Wo G n b op (Bool.rec (xX G.P (den G.P H (cE G.gl b e)).ev ((den G.P H (gz G.gl b (e'::r))).bo op) op) (den G.P H (cE G.gl b e)).ev (isNil (gz G.gl b (e'::r)))) (e::e'::r)
   refine aa hn ?_
   exact Il tr he.1 hr
theorem CP:∀{ks:List Keyword},(∀k∈ks,dz G n H b k.value)->NA G n b (den G.P H (JC G.gl b ks)).NW ks/\((∃cx σ r,(den G.P H (JC G.gl b ks)).NW cx σ=some r)->named ks=true)
 | [],_=>⟨nJ,fun _=>rfl⟩
 |⟨x,e,p⟩::r,h=>by
  have hr:=CP (ks:=r) fun y hy=>h y (fw _ hy)
  have he:dz G n H b e:=h ⟨x,e,p⟩ cg
  induction x with
  |none=>exact ⟨fun _ _ _ _ _ _ _ _ _ _ _ _ ev=>(zS ev),fun ⟨_,_,_,e⟩=>zS e⟩
  |some x=>
   refine ⟨CQ he.1 hr.1,fun ⟨cx,σ,q,e'⟩=>?_⟩
   refine af (show cj ((den G.P H (cE G.gl b e)).ev cx σ) (fun a σ=>cj ((den G.P H (JC G.gl b r)).NW cx σ) fun as σ=>some ((code x,a)::as,σ))=some q from e') fun c aE e1 e2=>?_
   refine af e2 fun cs aY e3 e4=>?_;clear e2
   exact hr.2 ⟨cx,aE,_,e3⟩
theorem AR{f:Expr}(h:Nat.beq f.ctorIdx 20=true):∃y name p,f= .Attribute y name p:=by
 induction f using PySem.Expr.casesOn with
 |Attribute y name p=>exact ⟨y,name,p,rfl⟩
 |_=>exact zT h
theorem qJ:(ou i=none->oY i=true)/\(ou i=some true->∃p,i= .Slice none none none p):=by
 induction i using PySem.Expr.casesOn with
 |Slice l u s p=>
  refine ⟨fun h=>zN h,fun h=>?_⟩
  have h:=aH h
  induction l with
  |some _=>exact zT h
  |none=>induction u with
   |some _=>exact zT h
   |none=>induction s with
    |some _=>exact zT h
    |none=>exact ⟨p,rfl⟩
 |_=>exact ⟨fun _=>rfl,fun h=>zS h⟩
theorem LX(h:(!b)=false):b=true:=by induction b with | true=>rfl | false=>exact zF h
theorem qQ(h:xc l=true):∃x,l=[x]:=by
 match l,h with
 | [x],_=>exact ⟨x,rfl⟩
end
section
theorem Cg(tr:eI G)(h:cE G.gl b e=t)(hf:SE G n b (den G.P H t).ev e)(hts:(den G.P H t).ts=Cm G.P (den G.P H t).ev\/(den G.P H t).ts=uU)(he:∀env whole,isTrue e env whole=(do let v <-whole;standAt e.pos;holding [v] (truthy v))):dz G n H b e:=by
 unfold dz
 refine aa h ?_
 refine ⟨hf,?_⟩
 rcases hts with e1 | e1<;>refine aa e1 ?_
 ·exact CJ tr hf he
 ·exact CK
theorem Ih(tr:eI G):dz G n H b (.Constant c k pos):=
 Cg tr (t:=th c) rfl (CW H c k pos) (by unfold th;split<;>first | exact .inl rfl | exact .inr rfl) (fun _ _=>rfl)
theorem L4(gk:qi G)(tr:eI G):dz G n H b (.Name x pos):=by
 refine Cg tr (t:=uX G.gl b x) rfl (GY gk H x pos) ?_ (fun _ _=>rfl)
 unfold uX
 cases Nat.beq (code x) Vz with
 |true=>exact .inr rfl
 |false=>
  show (den G.P H (qU G.gl b x)).ts=_\/_
  unfold qU
  repeat' split
  all_goals first | exact .inl rfl | exact .inr rfl
theorem VY(tr:eI G)(h:∀e∈es,dz G n H b e):dz G n H b (.BoolOp op es pos):=⟨JD tr h pos,GR (JK h)⟩
theorem Xq(tr:eI G)(h:dz G n H b x):dz G n H b (.UnaryOp op x pos):=by
 induction op with
 |Not=>exact ⟨KG tr h.1,Kw h.2⟩
 |_=>exact fU rfl
theorem abA(ht:dz G n H b t)(hx:dz G n H b x)(ho:dz G n H b o):dz G n H b (.IfExp t x o pos):=⟨OV ht.2 hx.1 ho.1,CK⟩
theorem V0(io:dn G)(tr:eI G)(hl:dz G n H b l)(hr:dz G n H b r):dz G n H b (.BinOp l op r pos):=gP tr rfl rfl (KJ io hl.1 hr.1) (fun _ _=>rfl)
theorem LQ(h:dz G n H b x):SE G n b (den G.P H (MG (gz G.gl b [x]))).ev x:=by
 show SE G n b (den G.P H (MG (cond (isStar x) .bad (.cons (cE G.gl b x) .nil)))).ev x
 induction isStar x with
 |true=>exact ug
 |false=>exact h.1
theorem VF(hl:dz G n H b l)(hr:∀e∈rs,dz G n H b e):dz G n H b (.Compare l ops rs pos):=by
 have hc:cE G.gl b (.Compare l ops rs pos)=VG (one ops) (!xc rs||rs.any bT) (cE G.gl b l) (MG (gz G.gl b rs)):=rfl
 generalize h1:one ops=o at hc
 induction o with
 |none=>exact fU hc
 |some op=>
  generalize h3:(!xc rs||rs.any bT)=c at hc
  induction c with
  |true=>exact fU hc
  |false=>
   rw [Bool.or_eq_false_iff] at h3
   refine aU (qQ (LX h3.1)) fun x q=>?_
   subst q
   have hs:bT x=false:=by simpa using h3.2
   have hx:=LQ (hr x cg)
   rw [dD h1]
   unfold dz
   refine aa (show cE G.gl b (.Compare l [op] [x] pos)= .cmp op (cE G.gl b l) (MG (gz G.gl b [x])) from dD h1▸hc) ?_
   exact ⟨KI hs hl.1 hx,Kx hs hl.1 hx⟩
theorem Mm(tr:eI G)(h:∀e∈es,dz G n H b e):dz G n H b (.List es pos):=gP tr rfl rfl (G0 (kA h).1) (fun _ _=>rfl)
theorem Oz(tr:eI G)(h:∀e∈es,dz G n H b e):dz G n H b (.Tuple es k pos):=gP tr rfl rfl (KC (kA h).1) (fun _ _=>rfl)
theorem Np(ca:dX G)(tr:eI G)(h:dz G n H b x):dz G n H b (.Attribute x name pos):=
 l3 (c:=bh x) rfl fun hp hc=>gP tr hc rfl (G4 ca hp h.1) (fun _ _=>rfl)
theorem OK(gk:qi G)(tr:eI G)(hx:dz G n H b x)(hi:dz G n H b i):dz G n H b (.Subscript x i pos):=by
 have hc:cE G.gl b (.Subscript x i pos)=OL (cE G.gl b x) (cE G.gl b i) (nameOf x).isSome (ou i):=rfl
 generalize hk:ou i=k at hc
 induction k with
 |none=>exact gP tr hc rfl (KD gk (qJ.1 hk) hx.1 hi.1) (fun _ _=>rfl)
 |some f=>
  induction f with
  |false=>exact fU hc
  |true=>
   clear hi
   generalize hn:nameOf x=o at hc
   induction o with
   |none=>exact fU hc
   |some y=>
    refine aU (qJ.2 hk) fun p q=>?_;clear hk;subst q
    exact gP tr hc rfl (G2 hn hx.1) (fun _ _=>rfl)
theorem Nj(ca:dX G)(tr:eI G)(hH:SH G n H)(hf:dz G n H b f)(hb:∀y name p,f= .Attribute y name p->dz G n H b y)(ha:∀e∈as,dz G n H b e)(hk:∀k∈ks,dz G n H b k.value):dz G n H b (.Call f as ks pos):=by
 refine aM (kA ha) fun s1 s2=>?_
 refine aM (CP hk) fun k1 k2=>?_
 clear ha hk
 generalize hi:Nat.beq f.ctorIdx 20=c
 induction c with
 |false=>
  have HV:cE G.gl b (.Call f as ks pos)= .call (cE G.gl b f) (gz G.gl b as) (JC G.gl b ks):=by
   show callC f (cE G.gl b f) pos.line (as.length+ks.length) (gz G.gl b as) (JC G.gl b ks)=_
   unfold callC
   rw [hi]
  refine gP tr HV rfl ?_ (fun _ _=>rfl)
  clear HV
  intro T W m σ s a aF Q E ok R ev P
  refine af ev fun x aE e1 e2=>?_
  refine af e2 fun vs aY e3 e4=>?_;clear e2
  refine af e4 fun kw fV e5 e6=>?_;clear e4
  exact G3 hH (fun o z p q=>by subst q;exact zF hi) hf.1 s1 (s2 ⟨true,_,_,_,e3,rfl⟩) k1 (k2 ⟨_,_,_,e5⟩) T W m σ s a aF Q E ok R ev P
 |true=>
  clear hf
  refine Ww (AR hi) fun y name p q=>?_;clear hi
  have hy:=hb y name p q
  clear hb;subst q
  have hc:cE G.gl b (.Call (.Attribute y name p) as ks pos)=I1 (Nat.beq p.endLine pos.line&&Nat.ble (as.length+ks.length) 20) (gz G.gl b as) (JC G.gl b ks) (cond (bh y) (.attr (cE G.gl b y) (code name)) .bad):=rfl
  generalize hp:bh y=c at hc
  induction c with
  |false=>exact fU hc
  |true=>
   refine l3 (show _=cond _ (PE.Mc _ _ _ _) PE.bad from hc) fun Ey HV=>gP tr HV rfl ?_ (fun _ _=>rfl)
   clear hc
   rw [Bool.and_eq_true] at Ey
   intro T W m σ s a aF Q E ok R ev P
   refine af ev fun x aE e1 e2=>?_
   refine ab e2 fun c e0 e2=>?_
   refine af e2 fun vs aY e3 e4=>?_
   refine af e4 fun kw fV e5 e6=>?_
   exact GZ ca hH hp (iL Ey.1) (zd Ey.2) hy.1 s1 (s2 ⟨true,_,_,_,e3,rfl⟩) k1 (k2 ⟨_,_,_,e5⟩) T W m σ s a aF Q E ok R ev P
end
section
theorem wK:Oj G n b LY ks vs:=fun _ _ _ _ _ _ _ _ _ _ _ _ ev=>zS ev
theorem CM:∀{ks:List (Option Expr)} {vs:List Expr},(∀o∈ks,∀e,o=some e->dz G n H b e)->(∀v∈vs,dz G n H b v)->
  Oj G n b (den G.P H (B3 (VP G.gl b ks) (gz G.gl b vs))).sX ks vs/\((∃cx σ r,(den G.P H (B3 (VP G.gl b ks) (gz G.gl b vs))).sX cx σ=some r)->ks.all (·.isSome)=true/\ks.length=vs.length)
 | [],[],_,_=>⟨GS,fun _=>⟨rfl,rfl⟩⟩
 | [],v::vs,_,_=>by
  have hc:gz G.gl b (v::vs)=cond (isStar v) .bad (.cons (cE G.gl b v) (gz G.gl b vs)):=rfl
  refine aa hc ?_
  cases isStar v<;>exact ⟨wK,fun ⟨_,_,_,e⟩=>zS e⟩
 |k::ks,[],_,_=>⟨wK,fun ⟨_,_,_,e⟩=>zS e⟩
 |k::ks,v::vs,hk,hv=>by
  have hc:gz G.gl b (v::vs)=cond (isStar v) .bad (.cons (cE G.gl b v) (gz G.gl b vs)):=rfl
  have hr:=CM (ks:=ks) (vs:=vs) (fun o ho=>hk o (fw _ ho)) (fun x hx=>hv x (fw _ hx))
  have h2:=hv v cg
  refine aa hc ?_
  cases isStar v with
  |true=>exact ⟨wK,fun ⟨_,_,_,e⟩=>zS e⟩
  |false=>
   induction k with
   |none=>exact ⟨fun _ _ _ _ _ _ _ _ _ _ _ _ ev=>(zS ev),fun ⟨_,_,_,e⟩=>zS e⟩
   |some k=>
    have h1:=hk (some k) cg k rfl
    refine ⟨CN h1.1 h2.1 hr.1,fun ⟨cx,σ,r,e⟩=>?_⟩
    refine af (show cj ((den G.P H (cE G.gl b k)).ev cx σ) (fun a σ=>cj ((den G.P H (cE G.gl b v)).ev cx σ) fun z σ=>cj ((den G.P H (B3 (VP G.gl b ks) (gz G.gl b vs))).sX cx σ) fun as σ=>some (a::z::as,σ))=some r from e) fun c aE e1 e2=>?_
    refine af e2 fun d aY e3 e4=>?_;clear e2
    refine af e4 fun as fV e5 e6=>?_;clear e4
    refine aM (hr.2 ⟨cx,aY,_,e5⟩) fun q1 q2=>?_
    exact ⟨q1,congrArg (· + 1) q2⟩
theorem M7(tr:eI G)(hk:∀o∈ks,∀e,o=some e->dz G n H b e)(hv:∀v∈vs,dz G n H b v):dz G n H b (.Dict ks vs pos):=by
 refine l3 (c:=Nat.ble ks.length 15) rfl fun hp hc=>gP tr hc rfl ?_ (fun _ _=>rfl)
 refine aM (CM hk hv) fun s1 s2=>?_
 intro T W m σ s a aF Q E ok R ev P
 refine af ev fun as aE e1 e2=>?_
 refine aM (s2 ⟨_,_,_,e1⟩) fun q1 q2=>?_
 by_cases h0:ks=[]
 ·subst h0
  have:vs=[]:=by induction vs using iM with
   |nil=>rfl
   |cons _ _=>exact nomatch q2
  subst this
  exact CV T W m σ s a aF Q E ok R ev P
 ·exact G1 q1 q2 h0 (zd hp) s1 T W m σ s a aF Q E ok R ev P
theorem D0(h:nameOf t=some x):∃p,t= .Name x p:=by
 induction t using PySem.Expr.casesOn<;>first | (have cw:=aH h;clear h;subst cw;exact ⟨_,rfl⟩) | (exact zS h)
theorem abk(gk:qi G)(tr:eI G)(he:∀b,dz G n H b elt)(hg:∀g∈gens,∀b,dz G n H b g.iter/\∀c∈g.ifs,dz G n H b c):dz G n H b (.ListComp elt gens scope pos):=by
 have hc:cE G.gl b (.ListComp elt gens scope pos)=Bool.rec .bad (lcC scope b (cE G.gl (b.in scope) elt) (MG (cGs G.gl b (b.in scope) gens))) (xc gens):=rfl
 generalize h1:xc gens=c at hc
 induction c with
 |false=>exact fU hc
 |true=>
  refine aU (qQ h1) fun g q=>?_;clear h1;subst q
  have h1:=hg _ cg
  clear hg
  obtain ⟨t,iter,ifs,a⟩:=g
  have hc:cE G.gl b (.ListComp elt [⟨t,iter,ifs,a⟩] scope pos)=lcC scope b (cE G.gl (b.in scope) elt) (gC (nameOf t) (!(decide (a=0))||bT iter) (cE G.gl b iter) (gz G.gl (b.in scope) ifs)):=hc
  generalize hn:nameOf t=o at hc
  induction o with
  |none=>exact fU hc
  |some x=>
   generalize hs:(!(decide (a=0))||bT iter)=c at hc
   induction c with
   |true=>exact fU hc
   |false=>
    rw [Bool.or_eq_false_iff] at hs
    have ha:=of_decide_eq_true (LX hs.1)
    replace hs:=hs.2
    refine aU (D0 hn) fun px q=>?_;clear hn;subst q
    subst ha
    induction b with
    |comp _ _=>exact fU hc
    |fn sc=>
    refine l3 (c:=xu scope (code x) (.fn sc)) hc fun tM HV=>gP tr HV rfl ?_ (fun _ _=>rfl)
    clear hc
    have hi:=(h1 (.fn sc)).1
    have hel:=he (.comp scope.names sc)
    have h2:=(h1 (.comp scope.names sc)).2
    clear h1 he HV
    induction ifs using iM with
    |nil=>exact OU gk tM hs hi.1 hel.1
    |cons ct r=>
     show SE G n _ (EY G.P _ _ _ (den G.P H (cond (isStar ct) .bad (.cons (cE G.gl (.comp scope.names sc) ct) (gz G.gl (.comp scope.names sc) r)))).c1) _
     induction isStar ct with
     |true=>exact ug
     |false=>
      induction r using iM with
      |nil=>exact KH gk tM hs hi.1 hel.1 (h2 ct cg).2
      |cons c2 r=>
       show SE G n _ (EY G.P _ _ _ (den G.P H (.cons _ (cond (isStar c2) .bad (.cons (cE G.gl (.comp scope.names sc) c2) (gz G.gl (.comp scope.names sc) r))))).c1) _
       induction isStar c2 with
       |true=>exact ug
       |false=>exact ug
end
section
noncomputable def V2:Expr->Option Expr
 | .Attribute y _ _=>some y
 |_=>none
noncomputable def FY(G:Gx)(n:Nat)(H:we)(e:Expr):Prop:=(∀b,dz G n H b e)/\∀y,V2 e=some y->∀b,dz G n H b y
theorem adn(h:∀b,cE G.gl b e= .bad)(k:V2 e=none):FY G n H e:=⟨fun b=>fU (h b),fun _ q=>zS (k▸q)⟩
variable (gk:qi G)(ca:dX G)(io:dn G)(hH:SH G n H)
include gk ca io hH
theorem Pn(e:Expr):FY G n H e:=by
 apply PySem.Expr.rec (motive_1:=FY G n H) (motive_2:=fun _=>True) (motive_3:=fun g=>∀b,dz G n H b g.iter/\∀c∈g.ifs,dz G n H b c) (motive_4:=fun _=>True) (motive_5:=fun _=>True) (motive_6:=fun _=>True) (motive_7:=fun k=>∀b,dz G n H b k.value) (motive_8:=fun _=>True) (motive_9:=fun _=>True) (motive_10:=fun _=>True) (motive_11:=fun _=>True) (motive_12:=fun l=>∀e∈l,∀b,dz G n H b e) (motive_13:=fun l=>∀o∈l,∀e,o=some e->∀b,dz G n H b e) (motive_14:=fun l=>∀g∈l,∀b,dz G n H b g.iter/\∀c∈g.ifs,dz G n H b c) (motive_15:=fun o=>∀e,o=some e->∀b,dz G n H b e) (motive_16:=fun l=>∀k∈l,∀b,dz G n H b k.value) (motive_17:=fun _=>True) (motive_18:=fun _=>True) (motive_19:=fun _=>True) (motive_20:=fun _=>True) (motive_21:=fun _=>True) (motive_22:=fun _=>True) (motive_23:=fun _=>True) (motive_24:=fun _=>True) (motive_25:=fun _=>True)
 case BoolOp=>exact fun _ _ _ h=>⟨fun b=>VY (cI gk) fun e he=>h e he b,fun _ h=>zS h⟩
 case BinOp=>exact fun _ _ _ _ h g=>⟨fun b=>V0 io (cI gk) (h.1 b) (g.1 b),fun _ h=>zS h⟩
 case UnaryOp=>exact fun _ _ _ h=>⟨fun b=>Xq (cI gk) (h.1 b),fun _ h=>zS h⟩
 case IfExp=>exact fun _ _ _ _ h g k=>⟨fun b=>abA (h.1 b) (g.1 b) (k.1 b),fun _ h=>zS h⟩
 case Dict=>exact fun _ _ _ h g=>⟨fun b=>M7 (cI gk) (fun o ho e he=>h o ho e he b) (fun v hv=>g v hv b),fun _ h=>zS h⟩
 case ListComp=>exact fun _ _ _ _ h g=>⟨fun b=>abk gk (cI gk) h.1 g,fun _ h=>zS h⟩
 case Compare=>exact fun _ _ _ _ h g=>⟨fun b=>VF (h.1 b) (fun e he=>g e he b),fun _ h=>zS h⟩
 case Call=>exact fun _ _ _ _ h g k=>⟨fun b=>Nj ca (cI gk) hH (h.1 b) (fun y _ _ q=>h.2 y (q▸rfl) b) (fun e he=>g e he b) (fun e he=>k e he b),fun _ h=>zS h⟩
 case Constant=>exact fun _ _ _=>⟨fun b=>Ih (cI gk),fun _ h=>zS h⟩
 case Attribute=>exact fun _ _ _ h=>⟨fun b=>Np ca (cI gk) (h.1 b),fun _ q=>aH q▸h.1⟩
 case Subscript=>exact fun _ _ _ h g=>⟨fun b=>OK gk (cI gk) (h.1 b) (g.1 b),fun _ h=>zS h⟩
 case Name=>exact fun _ _=>⟨fun b=>L4 gk (cI gk),fun _ h=>zS h⟩
 case List=>exact fun _ _ h=>⟨fun b=>Mm (cI gk) fun e he=>h e he b,fun _ h=>zS h⟩
 case Tuple=>exact fun _ _ _ h=>⟨fun b=>Oz (cI gk) fun e he=>h e he b,fun _ h=>zS h⟩
 all_goals first
 |(intros;exact adn (fun _=>rfl) rfl)
 |(intros;exact True.intro)
 |exact fun _ h=>zM h
 |exact fun _ h=>zS h
 |exact fun _ h _ q=>aH q▸h.1
 |exact fun _ _ _ h=>h.1
 |exact fun _ _ _ _ _ h g b=>⟨h.1 b,fun c hc=>g c hc b⟩
 |exact fun _ _ h g e he=>(gn he).elim (fun q=>by subst q;exact h.1) (g e)
 |exact fun _ _ h g e he=>(gn he).elim (fun q=>by subst q;exact h) (g e)
theorem xd(e:Expr)(b:gf):dz G n H b e:=(Pn gk ca io hH e).1 b
end
section
variable {G:Gx}{n:Nat}
theorem sO(h:itemsOf it=some o):∃apos j5,it= .Call (.Attribute o (S "items") apos) [] [] j5/\bh o=true/\apos.endLine=j5.line:=by
 induction it using PySem.Expr.casesOn with
 |Call f as ks j5=>
  induction f using PySem.Expr.casesOn with
  |Attribute e name apos=>
   match as,ks,h with
   | [],[],h=>
    have h':cond (Nat.beq (code name) (code (S "items"))&&(bh e&&Nat.beq apos.endLine j5.line)) (some e) none=some o:=h
    generalize q:(Nat.beq (code name) (code (S "items"))&&(bh e&&Nat.beq apos.endLine j5.line))=bZ;induction bZ with
    |false=>replace h':=q▸h';exact zS h'
    |true=>
     replace h':=q▸h'
     have eW:=aH h';clear h';clear h;subst eW
     replace q:=(Bool.and_eq_true ..)▸q;replace q:=(Bool.and_eq_true ..)▸q
     refine aa (code_inj (iL q.1)) ?_
     exact ⟨apos,j5,rfl,q.2.1,iL q.2.2⟩
  |_=>exact zS h
 |_=>exact zS h
theorem tY(h:rW t=some ts):∃k p,t= .Tuple ts k p:=by
 induction t using PySem.Expr.casesOn with
 |Tuple ts k p=>have gh:=aH h;clear h;subst gh;exact ⟨k,p,rfl⟩
 |_=>exact zS h
theorem DR.pair(h:DR W es kvs):∀{i:Nat} {k:Str} {v:Value},kvs[i]?=some (k,v)->∃a r,es.drop i=(code k,k,a)::r/\es.drop (i+1)=r/\VR W a v:=by
 induction h with
 |nil=>intro i k v e;simp at e
 |cons hv _ ih=>
  intro i k v e
  induction i using Nat.casesOn with
  |zero=>simp only [List.getElem?_cons_zero,Option.some.injEq,Prod.mk.injEq] at e;refine aM e fun b7 cw=>?_;clear e;subst b7 cw;exact ⟨_,_,rfl,rfl,hv⟩
  |succ i=>replace e:=List.getElem?_cons_succ▸e;exact ih e
theorem xV{T:At}(p1:bh o=true)(p2:apos.endLine=j5.line)(hf:SE G n b f o)
  (gH:T.Ok G n b W) (R:T.Rep G s.heap m W σ) (e1:f T.cx σ=some (.o i,aE)) (g1:aE.mem.get i=some (.dict es))
  (P:∀W₁ aq tk ad ob kvs,W.le W₁->T.Rep G aq m W₁ aE->W₁.bg[i]?=some ad->W₁.ls[i]?=some [(ad,ob)]->ob.IsDictOf (strKind G.prog G.w) kvs->DR W₁ es kvs->(ad==sysModules)=false->aq.DictOf (strKind G.prog G.w) ad kvs->Q (.ref aq.objs.size) {s with heap:=aq.push {cls:= .type "dict_items",data:= .fields #[.ref ad]},toks:=tk}):
  wpAny (model G.prog G.w) T.A (eval (.Call (.Attribute o (S "items") apos) [] [] j5) T.env) Q E s:=by
 refine aa (arm_eval_Call ..) (aa (jQ p1 ..) ?_)
 refine wpAny_bind (hf T W m σ s _ _ _ E gH R e1 fun W₁ aq ar bp ag ak aK=>wpAny_bind (wpAny_standAt ?_))
 refine ak.dP g1 aK fun ad ob kvs ha hl hm hd r lo=>?_;clear g1 aK
 have hp:∀o,methodCallPos true o T.env apos j5=pure j5:=fun o=>by
  unfold methodCallPos
  refine aa (p2 ..) (aa (beq_self_eq_true ..) ?_);rfl
 have hD:=kda_dict (s:={s with heap:=aq,toks:=ar}) ak.nw hm hd
 have Vp:methodCallForm (([]:List Expr).length+([]:List Keyword).length) (backTo j5 (starEach [] T.env)) (backToKw j5 (keywordEach [] T.env))=true:=rfl
 unfold methodCall
 refine aa Vp ?_
 unfold calleeOf
 simp only [if_true]
 refine wpAny_bind (wpAny_holding (kdl_method PySem.F.slot_dict_items PySem.F.type_dict_items (s:={s with heap:=aq,toks:=ar}) ak.nw hm hd ?_))
 refine aa (hp ..) ?_
 refine wpAny_bind (wpAny_pure ?_)
 exact method_meetsIn F.slot_dict_items F.entry_dict_items rfl (PyProof.Rows.evalArgs_none ⟨rfl,hD.typeIs,F.args_dict_items_1 _,_,meets_dict_items (strKind G.prog G.w) ad lo,⟨kvs,hD⟩,P W₁ aq ar ad ob kvs ag ak ha hl hd r lo hD⟩)
theorem GI{g:Gl}(p1:bh o=true)(p2:apos.endLine=j5.line)(hg:NB G n b g ts\/∀as cx σ aF,g as cx σ≠some aF)(hf:SE G n b f o)(hb:BF G n b body bs):
  SX G n b (IJ g f body) (.For (.Tuple ts k p) (.Call (.Attribute o (S "items") apos) [] [] j5) bs [] pos):=by
 intro T W m σ s fl aF Q E gH R ev P
 refine af ev fun x aE e1 e2=>?_;clear ev
 refine ab e2 fun dk e3 e4=>?_;clear e2;obtain ⟨i,es⟩:=dk
 refine aM (mc e3) fun eD g1=>?_;clear e3;subst eD
 refine au e4 fun hs e5=>?_;clear e4
 have e6:∃dO mm,rU g body T.cx es (aB aE (hide aE.mem (.o i)))=some (fl,dO)/\iK aE.mem dO.mem (.o i)=some mm/\aF=aB dO mm:=by
  generalize hc:T.cx.comp=ir;induction ir with
  |some z=>replace e5:=hc▸e5;exact zS e5
  |none=>
   replace e5:=hc▸e5
   refine af e5 fun Vn dO g1 g2=>?_;clear e5
   refine ab g2 fun mm g3 g4=>?_;clear g2
   refine eO g4 fun fG gF=>?_;clear g4;clear P;subst fG gF
   exact ⟨dO,mm,g1,g3,rfl⟩
 refine dM e6 fun dO mm e7 e8 gg=>?_;clear e6;subst gg
 refine wpAny_For (xV p1 p2 hf gH R e1 g1 fun W₁ aq ar ad od bf ag ak ha hl hd hr lo hD=>?_) (fun _=>rfl)
 refine aU hD.dictAt fun ep EA=>?_
 have az:=ak.hide hl
 have AW:ad<aq.objs.size:=EA.lt_size
 have keep:∀(u:Obj) {p:Addr×Obj},p∈(W₁.upd i []).news ([(ad,od)]++T.fz)->(aq.push u).get? p.1=some p.2:=fun u p hp=>Heap.get?_push_of_some _ (az.nw p hp).1
 let vw:Obj:={cls:= .type "dict_items",data:= .fields #[.ref ad]}
 refine wpAny_pyIter_items (knd:=strKind G.prog G.w) (d:=ad) (kvs:=bf) (ep:=ep) (s:={s with heap:=aq.push vw,toks:=ar}) ⟨_,Heap.get?_push_size _ rfl,rfl,rfl⟩ (EA.push _) ?_
 have hS:(aq.push vw).objs.size=aq.objs.size+1:=Heap.size_push ..
 have Yn:=(gH.mono (ag.trans (W₁.aP i []))).aD [(ad,od)]
 have fin:∀W' h' m',(W₁.upd i []).le W'->(T.aD [(ad,od)]).Rep G h' m' W' dO->∃jR,W'.le jR/\T.Rep G h' m' jR (aB dO mm):=by
  intro W' h' m' le R'
  refine ab e8 fun o' f1 f2=>?_;clear e8
  replace f1:=g1▸f1;have jm:=aH f1;clear f1;subst jm;have mD:=aH f2;clear f2;clear P e5;subst mD
  exact ⟨_,W'.aP i _,Rep.Cc R' (ai le.bg ha) ((show jD G.prog G.w G.P W₁ ad (.dict es) [(ad,od)] from ⟨od,bf,rfl,hd,lo,hr⟩).mono ((W₁.aP i []).trans le))⟩
 refine xq (T:=T.aD [(ad,od)]) (W₀:=W₁.upd i []) (m₀:=m) (σ₀:=aB aE (aE.mem.set i .gone)) (kti_itemsTurns (knd:=strKind G.prog G.w) gH.gL.hh (aq.push vw).objs.size ad (by refine aa hS ?_;exact Nat.ne_of_lt (Nat.lt_succ_of_lt AW)) bf ep)
  (az.heap ((az.fr.push vw).push _) fun p hp=>⟨Heap.get?_push_of_some _ (keep vw hp),(az.nw p hp).2⟩) (next_is_new (az.fr.push vw)) (by refine aa hS ?_;exact Nat.ne_of_lt (Nat.lt_succ_of_lt az.fr.ns.lt)) (fun p hp=>Nat.ne_of_lt (Heap.lt_size (keep vw hp)))
  (fun c hc=>?_) ⟨⟨_,_,Heap.get?_push_size _ rfl⟩,(EA.push _).push _⟩ (fun j h' st=>let ⟨⟨_,_,q⟩,_⟩:=st;⟨_,q⟩)
  (fun j W' mv=>(W₁.upd i []).le W'/\rU g body T.cx (es.drop j) mv=some (fl,dO)) ⟨.refl _,by refine aa List.drop_zero ?_;exact e7⟩ ?_ ?_
 ·rcases gn hc with rfl | hc
  ·exact .inl rfl
  ·refine aa (dU hc) ?_;exact .inr (.inl ⟨od,cg⟩)
 ·rintro j u W' m' mv aJ aG oJ jL ⟨Tt,key,kk,xv,rfl,hx,U0,hT⟩ ⟨jZ,et⟩ Rb
  refine dM (hr.pair hx) fun a rest d1 d2 hv=>?_
  replace et:=d1▸et
  refine ab (show ob (g [.str kk,a] T.cx mv) (fun σ=>cj (body T.cx σ) (yj (rU g body T.cx rest)))=some (fl,dO) from et) fun WC f1 f2=>?_
  refine af f2 fun flb Gm f3 f4=>?_;clear f2
  rcases hg with hg | hg
  ·refine aU (Value.isStrOf_shape U0) fun t gR=>?_;clear U0;subst gR
   have Pl:=(Yn.mono jZ).aD [((aq.push vw).objs.size,oJ)]
   refine rV hg (T:=(T.aD [(ad,od)]).aD [((aq.push vw).objs.size,oJ)]) (s:={s with heap:=aJ,toks:=aG}) (xs:=[.str kk,a]) (vs:=[.str kk t,xv]) Pl Rb ⟨⟨t,rfl⟩,hv.mono ((W₁.aP i []).trans jZ),trivial⟩ hT f1 fun bu gT bq aQ _ bj cc _=>?_
   refine hb ((T.aD [(ad,od)]).aD [((aq.push vw).objs.size,oJ)]) bu gT WC {s with heap:=bq,toks:=aQ} flb Gm _ _ (Pl.mono bj) cc f3 fun ew gm cQ cz Gq js gA ek=>?_
   have AJ:=(jZ.trans bj).trans js
   have mh:(T.aD [(ad,od)]).Rep G cQ gm ew Gm:=gA.kg (l:=[((aq.push vw).objs.size,oJ)])
   induction flb with
   |next=>subst ek;exact ⟨ew,gm,cQ,cz,Gm,rfl,gA,AJ,by refine aa d2 ?_;exact f4⟩
   |cont=>subst ek;exact ⟨ew,gm,cQ,cz,Gm,rfl,gA,AJ,by refine aa d2 ?_;exact f4⟩
   |brk=>
    subst ek
    refine eO f4 fun cW eY=>?_;clear f4;clear e8 e7 e5 et;subst cW eY
    refine ay (fin ew cQ gm AJ mh) fun i5 wu gJ=>?_
    exact P i5 gm cQ cz _ (((ag.trans (W₁.aP i [])).trans AJ).trans wu) gJ rfl
   |ret a=>
    refine ay ek fun v dQ r=>?_;clear ek;subst dQ
    refine eO f4 fun cZ dq=>?_;clear f4;clear e8 e7 e5 et;subst cZ dq
    refine ay (fin ew cQ gm AJ mh) fun i5 wu gJ=>?_
    exact P i5 gm cQ cz _ (((ag.trans (W₁.aP i [])).trans AJ).trans wu) gJ ⟨v,rfl,r.mono wu⟩
  ·exact absurd f1 (hg _ _ _ _)
 ·rintro W' m' mv aJ aG Ra ⟨jZ,et⟩
  replace et:=(Eq.symm hr.length)▸et;replace et:=List.drop_length▸et
  refine eO et fun dp fQ=>?_;clear et;clear e8 e7 e5;subst dp fQ
  refine ay (fin W' aJ m' jZ Ra) fun i5 wu gJ=>?_
  exact P i5 m' aJ aG _ (((ag.trans (W₁.aP i [])).trans jZ).trans wu) gJ rfl
theorem OX:SA G n b F3 e:=fun _ _ _ _ _ _ _ _ _ _ _ _ _ ev=>zS ev
theorem OJ:SX G n b wq s:=fun _ _ _ _ _ _ _ _ _ _ _ ev=>zS ev
variable (G n H) in
noncomputable def B1(b:gf)(t:Expr):Prop:=SA G n b (den G.P H (cT G.gl b t)).asg t
variable (G n H) in
noncomputable def ya(b:gf)(s:Stmt):Prop:=SX G n b (den G.P H (cS G.gl b s)).ex s
theorem fY(h:cT G.gl b t= .bad):B1 G n H b t:=by unfold B1;refine aa h ?_;exact OX
theorem fD(h:cS G.gl b t= .bad):ya G n H b t:=by unfold ya;refine aa h ?_;exact OJ
theorem wQ:∀{ts:List Expr},(∀t∈ts,B1 G n H b t)->NB G n b (den G.P H (Gj G.gl b ts)).BE ts\/∀as cx σ aF,(den G.P H (Gj G.gl b ts)).BE as cx σ≠some aF
 | [],_=> .inl yv
 |t::r,h=>by
  have hc:Gj G.gl b (t::r)=cond (isStar t) .bad (.cons (cT G.gl b t) (Gj G.gl b r)):=rfl
  refine aa hc ?_
  generalize hs:isStar t=ny;induction ny with
  |true=>exact .inr fun _ _ _ _ e=>zS e
  |false=>
   rcases wQ (ts:=r) fun x hx=>h x (fw _ hx) with q | q
   ·exact .inl (oB hs (h t cg) q)
   ·refine .inr fun as cx σ aF e=>?_
    induction as using iM with
    |nil=>exact zS e
    |cons v vs=>
     refine ab (show ob ((den G.P H (cT G.gl b t)).asg v cx σ) (fun σ=>(den G.P H (Gj G.gl b r)).BE vs cx σ)=some aF from e) fun aE e1 e2=>?_
     exact q _ _ _ _ e2
theorem LZ(h:Nat.beq t.ctorIdx 24=true):cT G.gl b t= .bad:=by
 induction t using PySem.Expr.casesOn with
 |List es p=>rfl
 |_=>exact zT h
theorem noStar(h:isStar t=true):cT G.gl b t= .bad:=by
 induction t using PySem.Expr.casesOn with
 |Starred es p=>rfl
 |_=>exact zT h
theorem tT(hb:cT G.gl b t= .bad)(hc:cS G.gl b (.Assign [t] e pos)= .asg (cT G.gl b t) (cE G.gl b e)):ya G n H b (.Assign [t] e pos):=by
 unfold ya
 refine aa hc (aa hb ?_)
 intro T W m σ s fl aF Q E _ _ ev _
 refine af (show Kc F3 (den G.P H (cE G.gl b e)).ev T.cx σ=some (fl,aF) from ev) fun x aE e1 e2=>?_
 exact ab e2 fun aY e3 _=>zS e3
section
variable (gk:qi G)(ca:dX G)(ok:∀(e:Expr) (b:gf),dz G n H b e)
include gk ca ok
theorem GA:B1 G n H b (.Name x pos):=jH x pos H
theorem GD:B1 G n H b (.Attribute x name pos):=by
 have hc:cT G.gl b (.Attribute x name pos)=cond (bh x) (.Cq (cE G.gl b x) (code name)) .bad:=rfl
 generalize hp:bh x=rS;induction rS with
 |false=>exact fY (by refine aa hc (aa hp ?_);rfl)
 |true=>replace hc:=hp▸hc;unfold B1;refine aa hc ?_;exact G6 ca (ok x b).1
theorem Kj:B1 G n H b (.Subscript x i pos):=KN (ok x b).1 (ok i b).1
theorem Kh(h:∀t∈ts,B1 G n H b t):B1 G n H b (.Tuple ts k pos):=by
 have hc:cT G.gl b (.Tuple ts k pos)= .Ki (Gj G.gl b ts):=rfl
 unfold B1;refine aa hc ?_
 rcases wQ h with q | q
 ·exact KL gk q
 ·intro T W m σ s a v aF Q E _ _ _ ev _
  refine ab ev fun xs e1 e2=>?_;clear ev
  exact absurd e2 (q _ _ _ _)
mutual
theorem gH:∀(t:Expr) (b:gf),B1 G n H b t
 | .Name _ _,_=>GA gk ca ok
 | .Attribute _ _ _,_=>GD gk ca ok
 | .Subscript _ _ _,_=>Kj gk ca ok
 | .Tuple ts _ _,b=>Kh gk ca ok fun t ht=>LS ts t ht b
 | .BoolOp _ _ _,_=>fY rfl
 | .NamedExpr _ _ _,_=>fY rfl
 | .BinOp _ _ _ _,_=>fY rfl
 | .UnaryOp _ _ _,_=>fY rfl
 | .Lambda _ _ _ _,_=>fY rfl
 | .IfExp _ _ _ _,_=>fY rfl
 | .Dict _ _ _,_=>fY rfl
 | .Set _ _ _,_=>fY rfl
 | .ListComp _ _ _ _,_=>fY rfl
 | .SetComp _ _ _ _,_=>fY rfl
 | .DictComp _ _ _ _ _,_=>fY rfl
 | .GeneratorExp _ _ _ _,_=>fY rfl
 | .Await _ _,_=>fY rfl
 | .Yield _ _,_=>fY rfl
 | .YieldFrom _ _,_=>fY rfl
 | .Compare _ _ _ _,_=>fY rfl
 | .Call _ _ _ _,_=>fY rfl
 | .FormattedValue _ _ _ _,_=>fY rfl
 | .JoinedStr _ _,_=>fY rfl
 | .Constant _ _ _,_=>fY rfl
 | .Starred _ _,_=>fY rfl
 | .List _ _,_=>fY rfl
 | .Slice _ _ _ _,_=>fY rfl
theorem LS:∀(ts:List Expr),∀t∈ts,∀b,B1 G n H b t
 | [],_,h,_=>zM h
 |x::r,t,h,b=>by
  rcases gn h with q | h
  ·refine aa q ?_;exact gH x b
  ·exact LS r t h b
end
theorem J9:ya G n H b (.Return e pos):=by
 induction e with
 |none=>exact GG
 |some e=>exact Kr (ok e b).1
theorem Gp:ya G n H b (.Expr e pos):=by
 have hc:cS G.gl b (.Expr e pos)=cond (qo e) .bad (.expr (cE G.gl b e)):=rfl
 generalize hl:qo e=tR;induction tR with
 |true=>exact fD (by refine aa hc (aa hl ?_);rfl)
 |false=>replace hc:=hl▸hc;unfold ya;refine aa hc ?_;exact GJ hl (ok e b).1
theorem Kb:ya G n H b (.Assign ts e pos):=by
 have hc:cS G.gl b (.Assign ts e pos)=Option.rec .bad (fun t=>cond (qo e||mL t) .bad (.asg (cT G.gl b t) (cE G.gl b e))) (one ts):=rfl
 generalize h1:one ts=o at hc
 induction o with
 |none=>exact fD hc
 |some t=>
  have q:=dD h1
  clear h1;subst q
  replace hc:cS G.gl b (.Assign [t] e pos)=cond (qo e||mL t) .bad (.asg (cT G.gl b t) (cE G.gl b e)):=hc
  generalize hl:(qo e||mL t)=c at hc
  induction c with
  |true=>exact fD hc
  |false=>
   rw [Bool.or_eq_false_iff] at hl
   generalize h3:Nat.beq t.ctorIdx 24=c
   induction c with
   |true=>exact tT (LZ h3) hc
   |false=>
    generalize h4:isStar t=c
    induction c with
    |true=>exact tT (noStar h4) hc
    |false=>
     unfold ya
     refine aa (show _=PE.asg (cT G.gl b t) (cE G.gl b e) from hc) ?_
     exact Kt hl.2 h4 hl.1 (fun es p q=>by subst q;exact zF h3) (gH gk ca ok t b) (ok e b).1
theorem Ka:ya G n H b (.Delete ts pos):=by
 have hc:cS G.gl b (.Delete ts pos)=Option.rec .bad (VQ G.gl b) (one ts):=rfl
 generalize h1:one ts=o at hc
 induction o with
 |none=>exact fD hc
 |some t=>
  have q:=dD h1
  clear h1;subst q
  induction t using PySem.Expr.casesOn with
  |Subscript x i p=>exact Ks (ok x b).1 (ok i b).1
  |_=>exact fD hc
theorem Mi(hs:bT it=false)(hb:BF G n b (den G.P H pe).qw body):SX G n b (den G.P H (yJ G.gl b t it pe)).ex (.For t it body [] pos):=by
 have hl:yJ G.gl b t it pe=(match itemsOf it,rW t with
  |some o,some ts=> .D7 (Gj G.gl b ts) (cE G.gl b o) pe
  |_,_=> .loop (cT G.gl b t) (cE G.gl b it) pe):=rfl
 generalize h1:itemsOf it=Xn;induction Xn with
 |none=>refine aa hl (aa h1 ?_);exact CH gk hs (gH gk ca ok t b) (ok it b).1 hb
 |some o=>
  generalize h2:rW t=Xm;induction Xm with
  |none=>refine aa hl (aa h1 (aa h2 ?_));exact CH gk hs (gH gk ca ok t b) (ok it b).1 hb
  |some ts=>
   refine dM (sO h1) fun apos j5 eX p1 p2=>?_;clear hs;subst eX
   refine BK (tY h2) fun k p fO=>?_;subst fO
   refine aa hl (aa h1 (aa h2 ?_))
   exact GI p1 p2 (wQ fun t ht=>LS gk ca ok ts t ht b) (ok o b).1 hb
mutual
theorem IZ:∀(st:Stmt) (b:gf),ya G n H b st
 | .Pass _,_=>GH
 | .Continue _,_=>GK
 | .Return _ _,_=>J9 gk ca ok
 | .Expr _ _,_=>Gp gk ca ok
 | .Assign _ _ _,_=>Kb gk ca ok
 | .If t x o _,b=>t8 (ok t b).2 (uO x b) (uO o b)
 | .Delete _ _,_=>Ka gk ca ok
 | .For t it body orelse pos,b=>by
  have hb:=uO body b
  have hc:cS G.gl b (.For t it body orelse pos)=cond (bT it || !orelse.isEmpty) .bad (yJ G.gl b t it (tO G.gl b body)):=rfl
  generalize hs:(bT it || !orelse.isEmpty)=c at hc
  induction c with
  |true=>exact fD hc
  |false=>
   rw [Bool.or_eq_false_iff] at hs
   have q:=List.isEmpty_iff.mp (LX hs.2)
   subst q
   unfold ya
   refine aa hc ?_
   exact Mi gk ca ok hs.1 hb
 | .FunctionDef ..,_=>fD rfl
 | .AsyncFunctionDef ..,_=>fD rfl
 | .ClassDef ..,_=>fD rfl
 | .TypeAlias ..,_=>fD rfl
 | .AugAssign ..,_=>fD rfl
 | .AnnAssign ..,_=>fD rfl
 | .AsyncFor ..,_=>fD rfl
 | .While ..,_=>fD rfl
 | .With ..,_=>fD rfl
 | .AsyncWith ..,_=>fD rfl
 | .Match ..,_=>fD rfl
 | .Raise ..,_=>fD rfl
 | .Try ..,_=>fD rfl
 | .TryStar ..,_=>fD rfl
 | .Assert ..,_=>fD rfl
 | .Import ..,_=>fD rfl
 | .ImportFrom ..,_=>fD rfl
 | .Global ..,_=>fD rfl
 | .Nonlocal ..,_=>fD rfl
 | .Break _,_=>fD rfl
theorem uO:∀(yn:List Stmt) (b:gf),BF G n b (den G.P H (tO G.gl b yn)).qw yn
 | [],_=>lr
 |st::r,b=>hG (IZ st b) (uO r b)
end
end
end
theorem Ik(gk:qi G)(ca:dX G)(io:dn G):BodyOk G:=fun _ _ hH b body=>uO gk ca (xd gk ca io hH) body b
theorem du(ga:j6 G N)(io:dn G)(n:Nat):SH G (n+N) (cH G.P n):=CS ga (Ik ga.gk ga.ca io) n
section
noncomputable def NN{α:Type}:Tr α->List (Nat×α)
 | .nil=>[]
 | .node k v l r=>(k,v)::(NN l++NN r)
theorem lq:∀{t:Tr α},dH x t=some v->(x,v)∈NN t
 | .nil,h=>zS h
 | .node k u l r,h=>by
  have h':(Bool.rec (Bool.rec (dH x r) (dH x l) (Nat.ble x k)) (some u) (Nat.beq x k):Option α)=some v:=h
  unfold NN
  generalize e:Nat.beq x k=bZ;induction bZ with
  |true=>
   replace h':=e▸h'
   have cW:=aH h';clear h';clear h;subst cW
   refine aa (iL e) ?_
   exact cg
  |false=>
   replace h':=e▸h'
   generalize g:Nat.ble x k=ir;induction ir with
   |true=>replace h':=g▸h';exact fw _ (sJ _ (lq h'))
   |false=>replace h':=g▸h';exact fw _ (List.mem_append_right _ (lq h'))
end
theorem aO:∀{l:List (Nat×α)},ah x l=some v->(x,v)∈l
 | [],h=>zS h
 |(k,u)::r,h=>by
  replace h:=(aI ..)▸h
  split at h
  ·have eY:=aH h;clear h;subst eY;subst_vars;exact cg
  ·exact fw _ (aO h)
noncomputable def Io:AV->Value->Bool
 | .none, .none=>true
 | .bool a, .bool b=>a==b
 | .str s, .str z _=>Nat.beq (code s) (code z)
 | .k a, .ref b=>Nat.beq a b
 |_,_=>false
theorem zp(h:Io a v=true)(W:Wd):VR W a v:=by
 unfold Io at h
 split at h
 ·rfl
 ·refine aa (eq_of_beq h) ?_;rfl
 ·exact ⟨_,by exact aa (code_inj (iL h)) rfl⟩
 ·refine aa (iL h) ?_;rfl
 ·cases h
noncomputable def zo:List AV->List Value->Bool
 | [],[]=>true
 |a::r,v::q=>Io a v&&zo r q
 |_,_=>false
theorem p8(W:Wd):∀{as:List AV} {vs:List Value},zo as vs=true->bE W as vs
 | [],[],_=>trivial
 |_::_,_::_,h=>⟨zp (Bool.and_eq_true_iff.mp h).1 W,p8 W (Bool.and_eq_true_iff.mp h).2⟩
 | [],_::_,h=>zT h
 |_::_,[],h=>zT h
noncomputable def Gi(K:Frag)(T:Stmt)(f:Addr):Ol:=match K.lookup f with
 |some ⟨oc,od, .func d,sl⟩=>⟨d.name,H.fA T,(H.fA T).args,(H.fA T).defaults,H.fB T,H.fS T,d.defaults,d.kwdefaults,d.doc,d.pyModule,d.code,d.closureTuple,oc,d.annotations,od,sl⟩
 |_=>⟨Str.empty,H.fA T,(H.fA T).args,(H.fA T).defaults,H.fB T,H.fS T, .none, .none, .none, .none, .none, .none, .none,none,none,#[]⟩
noncomputable def objOf(D:Ol)(q:Str):Obj:=⟨D.oc,D.od, .func (fnOf D.name q D.params D.body D.scope D.dV D.kV D.doc D.pm D.an D.nk D.ct),D.Yk⟩
noncomputable def jo(l:List Nat):Bool:=match l with
 | []=>true
 |a::r=>!dG a r&&jo r
noncomputable def Ja(k:Option NameKind):Bool:=match k with
 |some .local=>true
 |some .cell=>true
 |_=>false
noncomputable def Mw(k:Option NameKind):Bool:=match k with
 |some .local=>true
 |_=>false
noncomputable def Jb(k:ScopeKind):Bool:=match k with
 | .function=>true
 |_=>false
noncomputable def Vy(K:Frag)(ds:List AV)(dV:Value):Bool:=match dV with
 | .none=>List.isEmpty ds
 | .ref t=>match K.lookup t with
  |some ⟨_,_, .seq vs _,_⟩=>zo ds vs.toList
  |_=>false
 |_=>false
noncomputable def EU(K:Frag)(fi:eV)(D:Ol):Bool:=
 codeIn K D.nk fi.qual&&jo (D.args.map fun a=>code a.arg)&&(D.args.all fun a=>Ja (iN (code a.arg) D.scope.names))&&Jb D.scope.kind && !D.scope.isCoroutine && !D.scope.isGenerator &&
 jo ((dw D.scope.names).map code)&&((dw D.scope.names).all fun x=>!Mw (iN (code x) D.scope.names))&&Vy K fi.ki D.dV
theorem mH:∀{l:List Str},jo (l.map code)=true->l.Nodup
 | [],_=>List.nodup_nil
 |a::r,h=>by
  refine aM (Bool.and_eq_true_iff.mp (show (!dG (code a) (r.map code)&&jo (r.map code))=true from h)) fun h1 h2=>?_
  refine List.nodup_cons.mpr ⟨fun hm=>?_,mH h2⟩
  have:dG (code a) (r.map code)=true:=(dF _ _).mpr (List.mem_map_of_mem hm)
  replace h1:=this▸h1;cases h1
theorem y9(ho:G.K.lookup f=some (objOf (Gi G.K T f) fi.qual))(hp:H.fA T=⟨[],(H.fA T).args,none,[],[],none,(H.fA T).defaults⟩)(UT:fi.params=(H.fA T).args.map fun a=>code a.arg)
  (hc:fi.cells=cellsOf (H.fS T).names) (hD:∃r,Gi G.K T f=r/\r.params=H.fA T/\r.args=(H.fA T).args/\r.dl=(H.fA T).defaults/\r.body=H.fB T/\r.scope=H.fS T) (ck:EU G.K fi (Gi G.K T f)=true):nH G f fi (Gi G.K T f):=by
 refine IF hD fun D e d1 d2 d3 d4 d5=>?_;clear hD
 rw [e] at ck ho ⊢
 unfold EU at ck
 simp only [Bool.and_eq_true,Bool.not_eq_true',List.all_eq_true] at ck
 refine aM ck fun b7 c9=>?_;clear ck;obtain ⟨⟨⟨⟨⟨⟨⟨c1,c2⟩,c3⟩,c4⟩,c5⟩,c6⟩,c7⟩,c8⟩:=b7
 refine ⟨ho,c1,by refine aa d1 (aa d2 (aa d3 ?_));exact hp,by refine aa d2 ?_;exact UT,?_,by refine aa d5 ?_;exact hc,?_,?_,c5,c6,?_,?_,?_⟩
 ·exact mH (by refine aa List.map_map ?_;exact c2)
 ·intro x hx
  refine ay (nS hx) fun a ha cw=>?_;clear hx;subst cw
  have:=c3 a ha
  replace this:=(cM ..)▸this
  unfold Ja at this
  split at this
  ·rename_i h;exact .inl h
  ·rename_i h;exact .inr h
  ·cases this
 ·unfold Jb at c4
  split at c4
  ·assumption
  ·cases c4
 ·rw [fC,List.append_nil,List.map_reverse,(List.reverse_perm _).nodup_iff,lW]
  exact mH c7
 ·intro x hx q
  have:=c8 x hx
  replace this:=(cM ..)▸this;replace this:=(q ..)▸this
  cases this
 ·intro W
  unfold Vy at c9
  split at c9
  ·rename_i h
   refine ⟨[],by refine aa (List.isEmpty_iff.mp c9) ?_;trivial,fun s X M A E Q q=>?_⟩
   refine aa h ?_
   exact wpAny_bind (wpAny_pure (wpAny_pure (q none rfl)))
  ·rename_i t h
   split at c9
   ·rename_i dd kk vs n sl hl
    refine ⟨vs.toList,p8 W c9,fun s X M A E Q q=>?_⟩
    refine aa h ?_
    refine wpAny_bind (wpAny_load (X _ _ hl) ?_)
    exact wpAny_pure (q (some vs) rfl)
   ·cases c9
  ·cases c9
noncomputable def ET:List (Addr×String×Stmt×List AV):=[(494, "Task._init_deps",H.zy,[]),(340, "Dependency._get",H.rK,[]),(180, "JsonDB.remove",H.rN,[]),(159, "JsonDB.set",H.rR,[]),(145, "JsonDB.__init__",H.zP,[]),(131, "get_md5",H.Oi,[]),(173, "JsonDB.in_",H.rO,[]),(166, "JsonDB.get",H.rP,[]),(291, "DependencyStatus.add_reason",H.rM,[.str (S "run")]),(283, "DependencyStatus.__init__",H.zH,[]),(208, "FileChangedChecker.__init__",H.zI,[]),(333, "Dependency._set",H.rL,[]),(326, "Dependency.__init__",H.zE,[]),(397, "Dependency.get_result",H.tD,[]),(376, "Dependency.save_success",H.rH,[.none]),(361, "Dependency._in",H.kr,[]),(347, "Dependency.remove",H.rJ,[]),(390, "Dependency.get_value",H.iR,[]),(383, "Dependency.get_values",H.zC,[]),(452, "UptodateCalculator.setup",H.zz,[]),(424, "Dependency.get_status",H.mV,[.bool false]),(404, "Dependency.remove_success",H.mW,[]),(487, "Task.__init__",H.rG,[.k 474, .k 475, .k 476, .k 477, .k 478, .k 479, .none, .bool false, .none]),(459, "UptodateCalculator.get_val",H.nt,[]),(613, "result_dep._result_group",H.zt,[]),(556, "Task._init_getargs",H.tA,[]),(515, "Task._expand_file_dep",H.zv,[]),(508, "Task._init_uptodate",H.zw,[]),(501, "Task._init_targets",H.zx,[]),(551, "Task.init_options",H.rF,[.none]),(522, "Task._expand_task_dep",H.zu,[]),(592, "result_dep.__init__",H.rE,[.bool false]),(570, "Task.execute",H.tw,[]),(563, "Task.save_extra_values",H.tx,[]),(606, "result_dep._result_single",H.kq,[]),(599, "result_dep.configure_task",H.rD,[]),(660, "_law_now",H.Od,[]),(641, "_law_result",H.Og,[]),(627, "result_dep.tell",H.zq,[]),(620, "result_dep._get_dep_result",H.zr,[]),(655, "_law_consumer",H.Oe,[]),(648, "_law_group",H.Of,[]),(679, "_law_end",H.B2,[]),(672, "_law_make",H.Ob,[]),(665, "_law_told",H.Oc,[]),(691, "_law_reads",H.qh,[]),(684, "_law_ask",H.Nx,[])]
noncomputable def rl(q:Addr×String×Stmt×List AV):eV:=bV q.2.1 q.2.2.1 q.2.2.2
theorem MR:NN iH=ET.map fun q=>(q.1,rl q):=by kernel_rfl
theorem y8(P:Params):(ET.map fun q=>(H.K P).lookup q.1)=ET.map fun q=>some (objOf (Gi (H.K P) q.2.2.1 q.1) (rl q).qual):=by kernel_rfl
theorem ES(P:Params):(ET.all fun q=>EU (H.K P) (rl q) (Gi (H.K P) q.2.2.1 q.1))=true:=by kernel_rfl
noncomputable def DK(a:Arguments):Bool:=a.posonlyargs.isEmpty&&a.vararg.isNone&&a.kwonlyargs.isEmpty&&a.kw_defaults.isEmpty&&a.kwarg.isNone
theorem uI(h:DK a=true):a=⟨[],a.args,none,[],[],none,a.defaults⟩:=by
 obtain ⟨p,as,v,ko,kd,kw,d⟩:=a
 unfold DK at h
 simp only [Bool.and_eq_true,List.isEmpty_iff,Option.isNone_iff_eq_none] at h
 refine aM h fun dC h5=>?_;clear h;obtain ⟨⟨⟨h1,h2⟩,h3⟩,h4⟩:=dC
 subst h1 h2 h3 h4 h5;rfl
theorem EP:(ET.all fun q=>DK (H.fA q.2.2.1))=true:=by kernel_rfl
theorem tf(K:Frag)(T:Stmt)(f:Addr):∃r,Gi K T f=r/\r.params=H.fA T/\r.args=(H.fA T).args/\r.dl=(H.fA T).defaults/\r.body=H.fB T/\r.scope=H.fS T:=by
 unfold Gi;split<;>exact ⟨_,rfl,rfl,rfl,rfl,rfl,rfl⟩
theorem aw:∀{l:List α},l.map f=l.map g->∀a∈l,f a=g a
 |_::_,h,a,m=>by
  replace h:=(List.map_cons ..)▸h;replace h:=(List.map_cons ..)▸h;replace h:=(List.cons.injEq ..)▸h
  rcases gn m with rfl | m
  ·exact h.1
  ·exact aw h.2 a m
theorem MQ(hK:G.K=H.K P)(hP:G.P.fns=iH)(hg:G.gl=aT):J7 G:=fun f fi hf=>by
 replace hf:=hP▸hf
 have hm:=lq hf
 replace hm:=MR▸hm
 refine ay (nS hm) fun q hq e=>?_
 cases e
 refine ⟨Gi G.K q.2.2.1 q.1,y9 (T:=q.2.2.1) ?_ (uI (pk EP q hq)) rfl rfl (tf _ _ _) ?_,?_⟩
 ·refine aa hK ?_;exact aw (y8 P) q hq
 ·refine aa hK ?_;exact pk (ES P) q hq
 ·refine IF (tf G.K q.2.2.1 q.1) fun r e _ _ _ h4 h5=>?_
  refine aa e (aa hg (aa h4 (aa h5 ?_)));rfl
noncomputable def VJ:List (Addr×zU×List (Str×Att)):=[(190,VX,[(S "get",(.fn 166)),(S "in_",(.fn 173)),(S "_db", .own),(S "remove",(.fn 180)),(S "set",(.fn 159))]),(267,VW,[(S "files", .own),(S "name",(.val (.str (S "MD5Checker"))))]),(308,VV,[(S "reasons", .own),(S "get_log", .own),(S "status", .own),(S "error_reason", .own),(S "add_reason",(.fn 291))]),(427,VU,[(S "_closed", .own),(S "remove",(.fn 347)),(S "_get",(.fn 340)),(S "_in",(.fn 361)),(S "_set",(.fn 333)),(S "checker", .own),(S "backend", .own),(S "get_status",(.fn 424)),(S "get_values",(.fn 383)),(S "get_value",(.fn 390)),(S "get_result",(.fn 397)),(S "remove_success",(.fn 404)),(S "save_success",(.fn 376))]),(630,VS,[(S "dep_manager", .own),(S "dep_name", .own),(S "setup",(.fn 452)),(S "tell",(.fn 627)),(S "get_val",(.fn 459)),(S "tasks_dict", .own),(S "setup_dep", .own),(S "configure_task",(.fn 599)),(S "_result_group",(.fn 613)),(S "result_name", .own),(S "_get_dep_result",(.fn 620)),(S "_result_single",(.fn 606))]),(573,VT,[(S "uptodate", .own),(S "targets", .own),(S "getargs", .own),(S "values", .own),(S "name", .own),(S "result", .own),(S "execute",(.fn 570)),(S "actions", .own),(S "wild_dep", .own),(S "calc_dep", .own),(S "options", .own),(S "file_dep", .own),(S "executed", .own),(S "task_dep", .own),(S "init_options",(.fn 551)),(S "has_subtask", .own),(S "subtask_of", .own),(S "_init_deps",(.fn 494)),(S "dep_changed", .own),(S "value_savers", .own),(S "setup_tasks", .own),(S "_expand_file_dep",(.fn 515)),(S "_init_targets",(.fn 501)),(S "_init_getargs",(.fn 556)),(S "_init_uptodate",(.fn 508)),(S "save_extra_values",(.fn 563)),(S "_expand_task_dep",(.fn 522))])]
noncomputable def rA(K:Frag)(C:Addr)(p:Str×Att):Bool:=match p.2 with
 | .own=>(findIn K (.ref C) p.1).any (noGet K)&&takerIn K C p.1==some none
 | .fn f=>findIn K (.ref C) p.1==some (some (.ref f))&&isFn K (.ref f)
 | .val v=>match findIn K (.ref C) p.1 with
  |some (some (.str z t))=>Io v (.str z t)&&specialIn K (.str z t) "__get__" == some none && !(copiedNames.contains p.1)
  |_=>false
noncomputable def Jx(K:Frag)(C:Addr)(ci:zU):Bool:=
 plainGet K C "__class__" && hasDictIn K C&&findIn K (.ref C) "__setattr__" == some (some (.builtin "object.__setattr__"))&&plainOver K C&&makesIn K C &&
 findIn K (.ref C) "__init__" == some (some (.ref ci.init))&&isFn K (.ref ci.init)&&keepIn K (.ref C)
theorem Ni:di=VJ.map fun q=>(q.1,q.2.1):=by kernel_rfl
theorem Nh:(VJ.map fun q=>NN q.2.1.BZ)=VJ.map fun q=>q.2.2.map fun p=>(code p.1,p.2):=by kernel_rfl
theorem Fs(P:Params):(VJ.all fun q=>q.2.2.all fun p=>rA (H.K P) q.1 p)=true:=by kernel_rfl
theorem Ng(P:Params):(VJ.all fun q=>Jx (H.K P) q.1 q.2.1)=true:=by kernel_rfl
theorem BD{K:Frag}(h:rA K C (x, .val v)=true):∃u,findIn K (.ref C) x=some (some u)/\specialIn K u "__get__" =some none/\handedIn u=true/\copiedNames.contains x=false/\∀W,VR W v u:=by
 unfold rA at h
 dsimp only at h
 split at h
 ·rename_i z t e
  simp only [Bool.and_eq_true,Bool.not_eq_true',beq_iff_eq] at h
  exact ⟨_,e,h.1.2,rfl,h.2,zp h.1.1⟩
 ·cases h
theorem Nf(hK:G.K=H.K P)(hP:G.P.cls=di):dX G:=fun C ci h=>by
 replace h:=hP▸h;replace h:=Ni▸h
 refine ay (nS (aO h)) fun q hq e=>?_
 cases e
 have e1:=aw Nh q hq
 have e2:=pk (Fs P) q hq
 have e3:=pk (Ng P) q hq
 replace e2:=(Eq.symm hK)▸e2;replace e3:=(Eq.symm hK)▸e3
 have at_:∀x a,dH (code x) q.2.1.BZ=some a->rA G.K q.1 (x,a)=true:=fun x a h=>by
  have hm:=lq h
  replace hm:=e1▸hm
  refine ay (nS hm) fun p hp e=>?_
  have:p=(x,a):=by
   obtain ⟨y,b⟩:=p
   simp only [Prod.mk.injEq] at e
   exact aa (code_inj e.1) (aa e.2 rfl)
  refine aa (Eq.symm this) ?_
  exact pk e2 p hp
 unfold Jx at e3
 simp only [Bool.and_eq_true,beq_iff_eq] at e3
 refine aM e3 fun dk k8=>?_;clear e3;obtain ⟨⟨⟨⟨⟨⟨k1,k2⟩,k3⟩,k4⟩,k5⟩,k6⟩,k7⟩:=dk
 refine ⟨fun _=>k1,k2,k3,k4,fun x h=>?_,fun x v h=>BD (at_ x _ h),fun x f h=>?_,k5,⟨k6,k7⟩,k8⟩
 ·have:=at_ x _ h
  unfold rA at this
  simp only [Bool.and_eq_true,beq_iff_eq,Option.any_eq_true] at this
  refine aM this fun eD h3=>?_;clear this;obtain ⟨a,h1,h2⟩:=eD
  exact ⟨⟨a,h1,h2⟩,h3⟩
 ·have:=at_ x _ h
  unfold rA at this
  simp only [Bool.and_eq_true,beq_iff_eq] at this
  exact this
noncomputable def glT:List (Str×AV):=[(S "get_md5", .k 131),(S "_law_result", .k 641),(S "_law_group", .k 648),(S "_law_consumer", .k 655),(S "_law_now", .k 660),(S "_law_told", .k 665),(S "_law_make", .k 672),(S "_law_end", .k 679),(S "_law_ask", .k 684),(S "_law_reads", .k 691),(S "JsonDB", .k 190),(S "MD5Checker", .k 267),(S "DependencyStatus", .k 308),(S "Dependency", .k 427),(S "UptodateCalculator", .k 462),(S "result_dep", .k 630),(S "Task", .k 573),(S "_law_subs", .k 633),(S "_law_all", .k 634),(S "isinstance", .bi .isinstance),(S "len", .bi .len),(S "list", .ty .list),(S "dict", .ty .dict),(S "str", .ty .str),(S "tuple", .ty .tuple),(S "bool", .ty .bool),(S "range", .ty .range),(S "enumerate", .ty .enumerate)]
noncomputable def Jk(K:Frag)(p:Str×AV):Bool:=match p.2 with
 | .k a=>nsIn K mainGlobals p.1==some (some (.ref a))
 | .ty t=>bootBuiltins p.1==some (.type (Cd t))&&nsIn K mainGlobals p.1==some none&&p.1 != "__name__"
 | .bi t=>bootBuiltins p.1==some (.builtin (biN t))&&nsIn K mainGlobals p.1==some none&&p.1 != "__name__"
 |_=>false
noncomputable def I5(K:Frag)(p:Addr×List AV):Bool:=match K.lookup p.1 with
 |some ⟨c,_, .seq vs _,_⟩=>c == .type "tuple" && zo p.2 vs.toList
 |_=>false
theorem MO:aT=glT.map fun p=>(code p.1,p.2):=by kernel_rfl
theorem MN(P:Params):(glT.all (Jk (H.K P)))=true:=by kernel_rfl
theorem Mr(P:Params):(mf.all (I5 (H.K P)))=true:=by kernel_rfl
theorem ab9(hK:G.K=H.K P)(hP:G.P.iW=mf)(hg:G.gl=aT):qi G:=by
 refine ⟨fun a l h=>?_,fun x v h=>?_⟩
 ·replace h:=hP▸h
  have:=pk (Mr P) _ (aO h)
  replace this:=(Eq.symm hK)▸this
  unfold I5 at this
  dsimp only at this
  split at this
  ·rename_i c dd vs n sl e
   simp only [Bool.and_eq_true,beq_iff_eq] at this
   refine aM this fun fG h2=>?_;clear this;subst fG
   exact ⟨vs.toList,dd,n,sl,e,fun W=>p8 W h2⟩
  ·cases this
 ·replace h:=hg▸h;replace h:=MO▸h
  refine ay (nS (aO h)) fun p hp e=>?_
  have:p=(x,v):=by
   obtain ⟨y,b⟩:=p
   simp only [Prod.mk.injEq] at e
   exact aa (code_inj e.1) (aa e.2 rfl)
  subst this
  have:=pk (MN P) _ hp
  replace this:=(Eq.symm hK)▸this
  unfold Jk at this
  dsimp only at this
  split at this
  ·exact .inl ⟨_,rfl,eq_of_beq this⟩
  ·simp only [Bool.and_eq_true,beq_iff_eq,bne_iff_ne] at this
   exact .inr ⟨.inl ⟨_,rfl,this.1.1⟩,this.1.2,this.2⟩
  ·simp only [Bool.and_eq_true,beq_iff_eq,bne_iff_ne] at this
   exact .inr ⟨.inr ⟨_,rfl,this.1.1⟩,this.1.2,this.2⟩
  ·cases this
noncomputable def Ej(K:Frag)(p:Addr×zU):Bool:=
 (p.2.mro.all fun C=>isNotIn K "NoneType" C&&isNotIn K "bool" C&&isNotIn K "str" C&&isIn K (.ref p.1) C)&&kin_notT K p.1 "list" && kin_notT K p.1 "dict" && kin_notT K p.1 "str" && kin_notT K p.1 "tuple" && kin_notT K p.1 "bool" &&
 plainGet K p.1 "__class__" && hasDictIn K p.1&&findIn K (.ref p.1) "__class__" == some (some (.builtin "object.__class__"))&&specialIn K (.builtin "object.__class__") "__get__" == some (some (.builtin "getset_descriptor.__get__")) &&
 takesIn K (.builtin "object.__class__")==some true&&mroIn K p.1 (.type "object")==some true
theorem HO(P:Params):(di.all (Ej (H.K P)))=true:=by kernel_rfl
theorem p6:∀{l:List (Addr×zU)},Mine.clsIn C l=true->∃p∈l,C∈p.2.mro
 | [],h=>zT h
 |p::r,h=>by
  have h':(Bool.rec (Mine.clsIn C r) true (dG C p.2.mro):Bool)=true:=h
  generalize e:dG C p.2.mro=ny;induction ny with
  |true=>exact ⟨p,cg,(dF _ _).mp e⟩
  |false=>
   replace h':=e▸h'
   refine ay (p6 h') fun q hq hc=>?_
   exact ⟨q,fw _ hq,hc⟩
theorem Mv(hK:G.K=H.K P)(hP:G.P.cls=di):FT G:=by
 have key:=HO P
 rw [<-hK,<-hP,List.all_eq_true] at key
 unfold Ej at key
 simp only [Bool.and_eq_true,beq_iff_eq,List.all_eq_true] at key
 refine ⟨fun C h=>?_,fun D ci h=>?_,fun D ci h C hm=>?_⟩
 ·refine ay (p6 h) fun p hp hc=>?_
  refine aM (key p hp) fun gF _=>?_;obtain ⟨⟨⟨⟨⟨⟨⟨⟨⟨⟨k,_⟩,_⟩,_⟩,_⟩,_⟩,_⟩,_⟩,_⟩,_⟩,_⟩:=gF
  exact ⟨(k C hc).1.1.1,(k C hc).1.1.2,(k C hc).1.2⟩
 ·refine aM (key _ (aO h)) fun gg k6=>?_;obtain ⟨⟨⟨⟨⟨⟨⟨⟨⟨⟨_,t1⟩,t2⟩,t3⟩,t4⟩,t5⟩,k1⟩,k2⟩,k3⟩,k4⟩,k5⟩:=gg
  exact ⟨fun t ht=>by rcases ht with rfl | rfl | rfl | rfl | rfl<;>assumption,k1,k2,k3,k4,k5,k6⟩
 ·refine aM (key _ (aO h)) fun gR _=>?_;obtain ⟨⟨⟨⟨⟨⟨⟨⟨⟨⟨k,_⟩,_⟩,_⟩,_⟩,_⟩,_⟩,_⟩,_⟩,_⟩,_⟩:=gR
  exact (k C ((dF _ _).mp hm)).2
end
section
open PySem PySem.W PySem.Calls PyProof.Rows PyProof.V PySem.Spec PyProof.Rows.KTD PySem.SeqAt PySem.MeetsSeq
inductive tQ:List DictEntry->List (Str×Value)->Prop
 |nil:tQ [] []
 |cons {e:DictEntry} {x:Str} {t:Tok} {v:Value} {es:List DictEntry} {kvs:List (Str×Value)}:e.key= .str x t->e.val=v->tQ es kvs->tQ (e::es) ((x,v)::kvs)
theorem tQ.of(h:Pairs (strKind prog w) es kvs):tQ es kvs:=by
 induction h with
 |nil=>exact .nil
 |cons hk hv _ ih=>refine aU (Value.isStrOf_shape hk) fun t ht=>?_;exact .cons ht hv ih
theorem tQ.length(h:tQ es kvs):es.length=kvs.length:=by
 induction h with
 |nil=>rfl
 |cons _ _ _ ih=>exact congrArg (· + 1) ih
theorem tQ.all(h:tQ es kvs):(es.all fun e=>isExactStrKey e.key)=true:=by
 induction h with
 |nil=>rfl
 |cons hk _ _ ih=>refine aa List.all_cons (aa hk (aa ih ?_));rfl
theorem tQ.get(h:tQ es kvs):∀{i:Nat} {e:DictEntry},es[i]?=some e->∃x t v,e.key= .str x t/\e.val=v/\kvs[i]?=some (x,v):=by
 induction h with
 |nil=>intro i e q;simp at q
 |cons hk hv _ ih=>
  intro i e q
  induction i using Nat.casesOn with
  |zero=>simp only [List.getElem?_cons_zero,Option.some.injEq] at q;subst q;exact ⟨_,_,_,hk,hv,rfl⟩
  |succ i=>exact ih (by simpa using q)
theorem tQ.find(h:tQ es kvs)(k:Str):(es.find? fun e=>e.key.isStr k).map (·.val)=valueAt kvs k:=by
 induction h with
 |nil=>rfl
 |cons hk hv _ ih=>
  unfold valueAt at ih ⊢
  refine aa (List.find?_cons ..) (aa (List.find?_cons ..) (aa (key_is hk ..) ?_))
  rename_i e x t v es kvs _
  by_cases q:k=x
  ·subst q;simp [hv]
  ·refine aa (decide_eq_false q ..) (aa (decide_eq_false (fun z=>q z.symm)) ?_);exact ih
section
variable {s:Shared}
theorem yo{oa ob:Obj}(ha:(a==sysModules)=false)(hb:(b==sysModules)=false)
  (Jd:s.heap.get? a=some oa) (Gb:oa.data= .dict es ep) (Et:s.heap.get? b=some ob) (MF:ob.data= .dict rq ep') (pa:tQ es.toList ka) (pb:tQ rq.toList kb) (hits:ka.length=kb.length->KeqHits A s kb ka r)
  (h:Q (ka.length==kb.length&&r) s):wpAny (model prog w) A (Builtin.Dict.samePairs nm a b) Q E s:=by
 have la:ka.length=es.size:=by refine aa (Eq.symm pa.length) ?_;exact Array.length_toList
 have lb:kb.length=rq.size:=by refine aa (Eq.symm pb.length) ?_;exact Array.length_toList
 replace h:=la▸h;replace h:=lb▸h
 unfold Builtin.Dict.samePairs Builtin.Dict.showsAll
 refine aa (if_neg (by rw [ha];exact Bool.false_ne_true)) (aa (if_neg (by rw [hb];exact Bool.false_ne_true)) ?_)
 refine wpAny_bind (wpAny_pure (wpAny_bind (wpAny_pure (wpAny_bind (wpAny_dictEntries Jd Gb ?_)))))
 dsimp only
 refine wpAny_bind (wpAny_dictEntries Et MF ?_)
 by_cases hz:es.size=rq.size
 ·have h1:Q r s:=by rw [hz,beq_self_eq_true,Bool.true_and] at h;exact h
  have h2:=hits (by exact aa la (aa lb (aa hz rfl)))
  refine aa (if_neg (by rw [hz];simp)) ?_
  refine wpAny_bind (wpAny_dictEpoch Jd Gb (wpAny_bind ?_))
  refine aa (Std.Legacy.Range.forIn_eq_forIn_range' ..) ?_
  simp only [Std.Legacy.Range.size,Nat.sub_zero,Nat.add_sub_cancel,Nat.div_one]
  refine wpAny_forIn_list _ (fun rest q s'=>s'=s/\q=(none,())/\∃i,rest=List.range' i (es.size-i)/\i<=es.size/\KeqHits A s kb (ka.drop i) r) _ ?_ ?_ _ _ ⟨rfl,rfl,0,by simp,Nat.zero_le _,h2⟩
  ·rintro x rest q s' ⟨rfl,rfl,i,hr,hi,hk⟩
   have jL:i<es.size:=by
    rcases Nat.lt_or_ge i es.size with g | g
    ·exact g
    ·replace hr:=(Nat.sub_eq_zero_of_le g)▸hr;simp at hr
   obtain ⟨rfl,MC⟩:x=i/\rest=List.range' (i+1) (es.size-(i+1)):=by
    replace hr:=(show es.size-i=(es.size-(i+1))+1 by omega)▸hr;replace hr:=List.range'_succ▸hr
    exact ⟨(List.cons.inj hr).1,(List.cons.inj hr).2⟩
   refine wpAny_bind (wpAny_dictEntries Jd Gb ?_)
   have ge:es.toList[x]?=some es[x]:=by refine aa Array.getElem?_toList ?_;exact Array.getElem?_eq_getElem jL
   refine qB (pa.get ge) fun k t v e1 e2 e3=>?_
   have hd:ka.drop x=(k,v)::ka.drop (x+1):=by
    refine aU (jN e3) fun hl he=>?_
    refine aa (Eq.symm he) ?_;exact List.drop_eq_getElem_cons hl
   replace hk:=hd▸hk
   refine aa (Array.getElem?_eq_getElem jL) ?_
   show wpAny _ _ (holding [es[x].key,es[x].val] _ >>=_) _ _ _
   refine aa e1 ?_
   refine wpAny_bind (wpAny_holding (wpAny_bind (kt_dictFind_strs Et MF (by refine aa (Eq.symm Array.all_toList) ?_;exact pb.all) ?_)))
   have fd:=pb.find k
   cases hj:rq.findIdx? fun e=>e.key.isStr k with
   |none=>
    have hn:valueAt kb k=none:=by
     rw [<-fd,List.find?_eq_none.mpr]
     ·rfl
     ·intro e he
      have:=Array.findIdx?_eq_none_iff.mp hj e (Array.mem_toList_iff.mp he)
      simpa using this
    rcases hk.inv with ⟨_,er⟩ | ⟨y,_,_,hy,_⟩
    ·replace h1:=er▸h1
     refine wpAny_pure ?_
     show wpAny _ _ (if (!false)=true then _ else _) _ _ _
     refine aa (if_pos (by decide)) ?_
     exact wpAny_pure (wpAny_pure h1)
    ·replace hy:=hn▸hy;exact zS hy
   |some j=>
    refine ay (Array.findIdx?_eq_some_iff_getElem.mp hj) fun jl j1 j2=>?_
    have xD:valueAt kb k=some rq[j].val:=by
     have hf:rq.toList.find? (fun e=>e.key.isStr k)=some rq[j]:=by
      rw [List.find?_eq_some_iff_getElem]
      exact ⟨j1,j,by simpa using jl,by simp,fun i hi=>by have:=j2 i hi;simpa using this⟩
     refine aa (Eq.symm fd) (aa hf ?_);rfl
    refine wpAny_bind (wpAny_dictEntries Et MF ?_)
    refine aa (Array.getElem?_eq_getElem jl) ?_
    rcases hk.inv with ⟨hn,_⟩ | ⟨y,e,b',hy,he,hrr,er⟩
    ·replace hn:=xD▸hn;exact zN hn
    ·have ey:rq[j].val=y:=aH (xD.symm.trans hy)
     replace he:=(Eq.symm ey)▸he;replace he:=(Eq.symm e2)▸he
     refine wpAny_holding (he prog w _ _ ?_)
     induction e with
     |false=>
      replace h1:=(er ..)▸h1;replace h1:=(Bool.false_and ..)▸h1
      show wpAny _ _ (if (!false)=true then _ else _) _ _ _
      refine aa (if_pos (by decide)) ?_
      exact wpAny_pure (wpAny_pure h1)
     |true=>
      replace er:=(Bool.true_and ..)▸er
      replace hrr:=(Eq.symm er)▸hrr
      show wpAny _ _ (if (!true)=true then _ else _) _ _ _
      refine aa (if_neg (by decide)) ?_
      refine wpAny_bind (wpAny_dictEpoch Jd Gb ?_)
      refine aa (if_neg (by simp)) ?_
      exact wpAny_pure ⟨rfl,rfl,x+1,MC,jL,hrr⟩
  ·rintro q s' ⟨rfl,rfl,i,hr,hi,hk⟩
   have U3:i=es.size:=by
    rcases Nat.lt_or_ge i es.size with g | g
    ·replace hr:=(show es.size-i=(es.size-(i+1))+1 by omega)▸hr;replace hr:=List.range'_succ▸hr;exact zL hr
    ·exact Nat.le_antisymm hi g
   refine wpAny_pure ?_
   replace hk:=U3▸hk;replace hk:=(Eq.symm la)▸hk;replace hk:=List.drop_length▸hk
   cases hk
   exact h1
 ·refine aa (if_pos (by simpa using hz)) ?_
  have hf:(es.size==rq.size)=false:=by simpa using hz
  replace h:=(hf ..)▸h;replace h:=(Bool.false_and ..)▸h
  exact wpAny_bind (wpAny_rule (wpAny_pure h))
structure DS(h:Heap)(a:Addr)(kvs:List (Str×Value)):Prop where
 no:(a==sysModules)=false
 ob:∃o es ep,h.get? a=some o/\o.ExactDict/\o.data= .dict es ep/\tQ es.toList kvs
theorem DS.of(ho:h.get? a=some o)(hd:o.IsDictOf (strKind prog w) kvs)(lo:(a==sysModules)=false):DS h a kvs:=by
 refine jB hd fun es ep he Gb _ hp _=>?_;clear hd
 exact ⟨lo,o,es,ep,ho,he,Gb, .of hp⟩
theorem DS.type(D:DS s.heap a kvs):s.TypeIs (.ref a) "dict" :=let ⟨o,_,_,ho,he,_⟩:=D.ob;⟨o,ho,he.1⟩
theorem Ds{r:Bool}(da:DS s.heap a ka)(db:DS s.heap b kb)(hu:A.units<cLine)(hits:ka.length=kb.length->KeqHits A.in1 s kb ka r):RcAt A s (.ref a) (.ref b) (ka.length==kb.length&&r):=fun prog w E Q h=>by
 refine mj da.ob fun oa es ep Jd _ Gb pa=>?_
 refine mj db.ob fun ob rq ep' Et _ MF pb=>?_
 refine wpAny_richCompare_same_room (op:= .Eq) da.type db.type PySem.F.slot_dict_eq (wpAny_call_entry PySem.F.slot_dict_eq da.type PySem.F.entry_dict_eq ?_ (PySem.F.args_dict_eq_2 _ _)) hu
 show wpAny _ _ (Builtin.Dict.dictSlotArgs "__eq__" ⟨[.ref a, .ref b],[]⟩ >>=_) _ _ s
 refine wpAny_bind ?_
 unfold Builtin.Dict.dictSlotArgs
 refine wpAny_bind (wpAny_notOrdered_dict da.type ?_)
 show wpAny _ _ (pure (Value.ref a,Value.ref b)) _ _ s
 refine wpAny_pure (wpAny_bind (wpAny_isInstance (T:= "dict") db.type PySem.F.sub_dict_dict ?_))
 simp only [Bool.not_true,Bool.false_eq_true,if_false]
 refine wpAny_bind (wpAny_pure (wpAny_bind (wpAny_pure (wpAny_bind (yo da.no db.no Jd Gb Et MF pa pb hits ?_)))))
 exact wpAny_pure ⟨_,rfl,fun x=>(nomatch x),by simpa using h⟩
theorem wY{r:Bool}(da:DS s.heap a ka)(db:DS s.heap b kb)(hu:A.units<cLine)(hits:ka.length=kb.length->KeqHits A.in1 s kb ka r):RcNeAt A s (.ref a) (.ref b) (!(ka.length==kb.length&&r)):=fun prog w E Q h=>by
 refine mj da.ob fun oa es ep Jd _ Gb pa=>?_
 refine mj db.ob fun ob rq ep' Et _ MF pb=>?_
 refine wpAny_richCompare_same_room (op:= .NotEq) da.type db.type PySem.F.slot_dict_ne (wpAny_call_entry PySem.F.slot_dict_ne da.type PySem.F.entry_dict_ne ?_ (PySem.F.args_dict_ne_2 _ _)) hu
 show wpAny _ _ (Builtin.Dict.dictSlotArgs "__ne__" ⟨[.ref a, .ref b],[]⟩ >>=_) _ _ s
 refine wpAny_bind ?_
 unfold Builtin.Dict.dictSlotArgs
 refine wpAny_bind (wpAny_notOrdered_dict da.type ?_)
 show wpAny _ _ (pure (Value.ref a,Value.ref b)) _ _ s
 refine wpAny_pure (wpAny_bind (wpAny_isInstance (T:= "dict") db.type PySem.F.sub_dict_dict ?_))
 simp only [Bool.not_true,Bool.false_eq_true,if_false]
 refine wpAny_bind (wpAny_pure (wpAny_bind (wpAny_pure (wpAny_bind (yo da.no db.no Jd Gb Et MF pa pb hits ?_)))))
 exact wpAny_pure ⟨_,rfl,fun x=>(nomatch x),by simpa using h⟩
end
section
theorem fk(D:DS s.heap a kvs)(tv:s.TypeIs v T)(sub:isSubtype (.type T) (.type "dict")=pure false) (h:Q .notImplemented s):wpAny (model prog w) A (call (.builtin "dict.__eq__") [.ref a,v]) Q E s:=by
 refine wpAny_call_entry PySem.F.slot_dict_eq D.type PySem.F.entry_dict_eq ?_ (PySem.F.args_dict_eq_2 _ _)
 show wpAny _ _ (Builtin.Dict.dictSlotArgs "__eq__" ⟨[.ref a,v],[]⟩ >>=_) _ _ s
 refine wpAny_bind ?_
 unfold Builtin.Dict.dictSlotArgs
 refine wpAny_bind (wpAny_notOrdered_dict D.type ?_)
 show wpAny _ _ (pure (Value.ref a,v)) _ _ s
 refine wpAny_pure (wpAny_bind (wpAny_isInstance (T:=T) tv sub ?_))
 simp only [Bool.not_false,if_true]
 exact wpAny_bind (wpAny_rule (wpAny_pure ⟨_,rfl,h⟩))
theorem fj(D:DS s.heap a kvs)(tv:s.TypeIs v T)(sub:isSubtype (.type T) (.type "dict")=pure false) (h:Q .notImplemented s):wpAny (model prog w) A (call (.builtin "dict.__ne__") [.ref a,v]) Q E s:=by
 refine wpAny_call_entry PySem.F.slot_dict_ne D.type PySem.F.entry_dict_ne ?_ (PySem.F.args_dict_ne_2 _ _)
 show wpAny _ _ (Builtin.Dict.dictSlotArgs "__ne__" ⟨[.ref a,v],[]⟩ >>=_) _ _ s
 refine wpAny_bind ?_
 unfold Builtin.Dict.dictSlotArgs
 refine wpAny_bind (wpAny_notOrdered_dict D.type ?_)
 show wpAny _ _ (pure (Value.ref a,v)) _ _ s
 refine wpAny_pure (wpAny_bind (wpAny_isInstance (T:=T) tv sub ?_))
 simp only [Bool.not_false,if_true]
 exact wpAny_bind (wpAny_rule (wpAny_pure ⟨_,rfl,h⟩))
end
theorem jg(b:Str)(u:Tok)(l:Addr)(c:Value)(es:Array DictEntry)(n:Nat)(dd:Option Addr)(sl:Array (Option Value)):
  Meets (Builtin.«str.__eq__» ⟨[.str b u, .ref l],[]⟩) (fun _ R s=>s.heap.get? l=some {cls:=c,dict:=dd,data:= .dict es n,slots:=sl}/\R (.ok (.ret .notImplemented)) s):=
 .of_wp fun prog w A R s h=>by obtain ⟨hp,g,d,tk,os⟩:=s;refine aM h fun hl h=>?_;wp_walk using wpAny_loadPart' hl,wpAny_load hl;exact ⟨_,rfl,h⟩
theorem jf(b:Str)(u:Tok)(l:Addr)(c:Value)(es:Array DictEntry)(n:Nat)(dd:Option Addr)(sl:Array (Option Value)):
  Meets (Builtin.«str.__ne__» ⟨[.str b u, .ref l],[]⟩) (fun _ R s=>s.heap.get? l=some {cls:=c,dict:=dd,data:= .dict es n,slots:=sl}/\R (.ok (.ret .notImplemented)) s):=
 .of_wp fun prog w A R s h=>by obtain ⟨hp,g,d,tk,os⟩:=s;refine aM h fun hl h=>?_;wp_walk using wpAny_loadPart' hl,wpAny_load hl;exact ⟨_,rfl,h⟩
theorem hF(l b:Addr)(items:Array Value)(es:Array DictEntry)(n n2:Nat)(dd Ib:Option Addr)(sl GU:Array (Option Value)):
  Meets (Builtin.«tuple.__eq__» ⟨[.ref l, .ref b],[]⟩) (fun _ R s=>s.heap.get? l=some {cls:= .type "tuple",dict:=dd,data:= .seq items n,slots:=sl}/\s.heap.get? b=some {cls:= .type "dict",dict:=Ib,data:= .dict es n2,slots:=GU}/\R (.ok (.ret .notImplemented)) s):=
 .of_wp fun prog w A R s h=>by obtain ⟨hp,g,d,tk,os⟩:=s;refine fK h fun hl hb h=>?_;have f1:=PySem.F.sub_dict_tuple;wp_walk using wpAny_loadPart' hl,wpAny_loadPart' hb;exact ⟨_,rfl,h⟩
theorem gZ(l b:Addr)(items:Array Value)(es:Array DictEntry)(n n2:Nat)(dd Ib:Option Addr)(sl GU:Array (Option Value)):
  Meets (Builtin.«tuple.__ne__» ⟨[.ref l, .ref b],[]⟩) (fun _ R s=>s.heap.get? l=some {cls:= .type "tuple",dict:=dd,data:= .seq items n,slots:=sl}/\s.heap.get? b=some {cls:= .type "dict",dict:=Ib,data:= .dict es n2,slots:=GU}/\R (.ok (.ret .notImplemented)) s):=
 .of_wp fun prog w A R s h=>by obtain ⟨hp,g,d,tk,os⟩:=s;refine fK h fun hl hb h=>?_;have f1:=PySem.F.sub_dict_tuple;wp_walk using wpAny_loadPart' hl,wpAny_loadPart' hb;exact ⟨_,rfl,h⟩
theorem DS.at(D:DS h a kvs):∃dd es ep sl,h.get? a=some {cls:= .type "dict",dict:=dd,data:= .dict es ep,slots:=sl}:=by
 refine mj D.ob fun b7 es ep ho he hd _=>?_;obtain ⟨c,dd,data,sl⟩:=b7
 have hc:c= .type "dict" :=he.1
 simp only at hd
 subst hc hd
 exact ⟨_,_,_,_,ho⟩
theorem sY(ne:(Value.ref x==v)=false)(h1:RcAt A s (Value.ref x) v false)(h2:RcNeAt A s (Value.ref x) v true):eK A s (Value.ref x) v false:=
 ⟨fun prog w E Q h=>by
  unfold eqBool
  refine wpAny_holding ?_
  refine wpAny_ite_split (fun U9=>absurd U9 (by refine aa ne ?_;exact Bool.false_ne_true)) (fun _=>?_)
  exact wpAny_bind (h1 prog w E _ (wpAny_truthy_bool h)),h1,h2⟩
theorem MZ(ne:(Value.none==v)=false)(h1:RcAt A s Value.none v false)(h2:RcNeAt A s Value.none v true):eK A s Value.none v false:=
 ⟨fun prog w E Q h=>by
  unfold eqBool
  refine wpAny_holding ?_
  refine wpAny_ite_split (fun U9=>absurd U9 (by refine aa ne ?_;exact Bool.false_ne_true)) (fun _=>?_)
  exact wpAny_bind (h1 prog w E _ (wpAny_truthy_bool h)),h1,h2⟩
theorem MY(ne:(Value.str b u==v)=false)(h1:RcAt A s (Value.str b u) v false)(h2:RcNeAt A s (Value.str b u) v true):eK A s (Value.str b u) v false:=
 ⟨fun prog w E Q h=>by
  unfold eqBool
  refine wpAny_holding ?_
  refine wpAny_ite_split (fun U9=>absurd U9 (by refine aa ne ?_;exact Bool.false_ne_true)) (fun _=>?_)
  exact wpAny_bind (h1 prog w E _ (wpAny_truthy_bool h)),h1,h2⟩
section
variable {s:Shared}
theorem sH(D:DS s.heap a kvs)(hu:A.units<cLine):eK A s (.ref a) .none false:=sY rfl
 (fun prog w E Q h=>rc_eq_decline_or (k:=false) D.type rfl (by decide) PySem.F.sub_NoneType_dict PySem.F.slot_dict_eq PySem.F.slot_NoneType_eq_refl (fun _ hq=>fk D (T:= "NoneType") rfl PySem.F.sub_NoneType_dict hq)
  (fun _ hq=>call_gives PySem.F.slot_NoneType_eq_refl rfl PySem.F.entry_NoneType_eq (PySem.F.args_NoneType_eq_2 _ _) (NoneType___eq___none_ref_0 a) hq) (fun _ hq=>wpAny_of_eq (rfl:isSame (.ref a) .none=pure false) hq) (.inr hu) h)
 (fun prog w E Q h=>rc_ne_decline_or (k:=false) D.type rfl (by decide) PySem.F.sub_NoneType_dict PySem.F.slot_dict_ne PySem.F.slot_NoneType_ne_refl (fun _ hq=>fj D (T:= "NoneType") rfl PySem.F.sub_NoneType_dict hq)
  (fun _ hq=>call_gives PySem.F.slot_NoneType_ne_refl rfl PySem.F.entry_NoneType_ne (PySem.F.args_NoneType_ne_2 _ _) (NoneType___ne___none_ref_0 a) hq) (fun _ hq=>wpAny_of_eq (rfl:isSame (.ref a) .none=pure false) hq) (.inr hu) h)
theorem sF(D:DS s.heap a kvs)(hu:A.units<cLine):eK A s .none (.ref a) false:=MZ rfl
 (fun prog w E Q h=>rc_eq_decline_or (k:=false) rfl D.type (by decide) PySem.F.sub_dict_NoneType PySem.F.slot_NoneType_eq PySem.F.slot_dict_eq_refl
  (fun _ hq=>call_gives PySem.F.slot_NoneType_eq rfl PySem.F.entry_NoneType_eq (PySem.F.args_NoneType_eq_2 _ _) (NoneType___eq___none_ref_0 a) hq) (fun _ hq=>fk D (T:= "NoneType") rfl PySem.F.sub_NoneType_dict hq) (fun _ hq=>wpAny_of_eq (rfl:isSame .none (.ref a)=pure false) hq) (.inr hu) h)
 (fun prog w E Q h=>rc_ne_decline_or (k:=false) rfl D.type (by decide) PySem.F.sub_dict_NoneType PySem.F.slot_NoneType_ne PySem.F.slot_dict_ne_refl
  (fun _ hq=>call_gives PySem.F.slot_NoneType_ne rfl PySem.F.entry_NoneType_ne (PySem.F.args_NoneType_ne_2 _ _) (NoneType___ne___none_ref_0 a) hq) (fun _ hq=>fj D (T:= "NoneType") rfl PySem.F.sub_NoneType_dict hq) (fun _ hq=>wpAny_of_eq (rfl:isSame .none (.ref a)=pure false) hq) (.inr hu) h)
theorem uT(D:DS s.heap a kvs)(b:Str)(u:Tok)(hu:A.units<cLine):eK A s (.ref a) (.str b u) false:=by
 refine FW D.at fun dd es ep sl ho=>?_
 exact sY rfl
  (fun prog w E Q h=>rc_eq_decline_or (k:=false) D.type (typeIs_str s b u) (by decide) PySem.F.sub_str_dict PySem.F.slot_dict_eq PySem.F.slot_str_eq_refl (fun _ hq=>fk D (typeIs_str s b u) PySem.F.sub_str_dict hq)
   (fun _ hq=>call_meets PySem.F.slot_str_eq_refl (typeIs_str s b u) PySem.F.entry_str_eq (PySem.F.args_str_eq_2 _ _) (jg b u a _ es ep dd sl) ⟨ho,hq⟩) (fun _ hq=>wpAny_of_eq (rfl:isSame (.ref a) (.str b u)=pure false) hq) (.inr hu) h)
  (fun prog w E Q h=>rc_ne_decline_or (k:=false) D.type (typeIs_str s b u) (by decide) PySem.F.sub_str_dict PySem.F.slot_dict_ne PySem.F.slot_str_ne_refl (fun _ hq=>fj D (typeIs_str s b u) PySem.F.sub_str_dict hq)
   (fun _ hq=>call_meets PySem.F.slot_str_ne_refl (typeIs_str s b u) PySem.F.entry_str_ne (PySem.F.args_str_ne_2 _ _) (jf b u a _ es ep dd sl) ⟨ho,hq⟩) (fun _ hq=>wpAny_of_eq (rfl:isSame (.ref a) (.str b u)=pure false) hq) (.inr hu) h)
theorem uR(D:DS s.heap a kvs)(b:Str)(u:Tok)(hu:A.units<cLine):eK A s (.str b u) (.ref a) false:=by
 refine FW D.at fun dd es ep sl ho=>?_
 exact MY rfl
  (fun prog w E Q h=>rc_eq_decline_or (k:=false) (typeIs_str s b u) D.type (by decide) PySem.F.sub_dict_str PySem.F.slot_str_eq PySem.F.slot_dict_eq_refl
   (fun _ hq=>call_meets PySem.F.slot_str_eq (typeIs_str s b u) PySem.F.entry_str_eq (PySem.F.args_str_eq_2 _ _) (jg b u a _ es ep dd sl) ⟨ho,hq⟩) (fun _ hq=>fk D (typeIs_str s b u) PySem.F.sub_str_dict hq) (fun _ hq=>wpAny_of_eq (rfl:isSame (.str b u) (.ref a)=pure false) hq) (.inr hu) h)
  (fun prog w E Q h=>rc_ne_decline_or (k:=false) (typeIs_str s b u) D.type (by decide) PySem.F.sub_dict_str PySem.F.slot_str_ne PySem.F.slot_dict_ne_refl
   (fun _ hq=>call_meets PySem.F.slot_str_ne (typeIs_str s b u) PySem.F.entry_str_ne (PySem.F.args_str_ne_2 _ _) (jf b u a _ es ep dd sl) ⟨ho,hq⟩) (fun _ hq=>fj D (typeIs_str s b u) PySem.F.sub_str_dict hq) (fun _ hq=>wpAny_of_eq (rfl:isSame (.str b u) (.ref a)=pure false) hq) (.inr hu) h)
theorem m9(hl:s.heap.IsTuple l items)(D:DS s.heap a kvs):l≠a:=fun e=>by
 subst e
 refine eN hl fun o ho hc _=>?_;clear hl
 refine FW D.at fun dd es ep sl lO=>?_
 replace lO:=ho▸lO;have cw:=aH lO;clear lO;clear ho;subst cw
 exact absurd hc (by simp)
theorem uQ(hl:s.heap.IsTuple l items)(D:DS s.heap a kvs)(hu:A.units<cLine):eK A s (.ref l) (.ref a) false:=by
 have qZ:=m9 hl D
 refine FW D.at fun dd es ep sl ho=>?_
 obtain ⟨⟨cls,Ib,data,GU⟩,lO,hc,n,hd⟩:=id hl
 simp only at hc hd
 subst hc hd
 exact sY (beq_eq_false_iff_ne.mpr fun e=>qZ (by injection e))
  (fun prog w E Q h=>rc_eq_decline_or (k:=false) ⟨_,lO,rfl⟩ D.type (by decide) PySem.F.sub_dict_tuple PySem.F.slot_tuple_eq PySem.F.slot_dict_eq_refl
   (fun _ hq=>call_meets PySem.F.slot_tuple_eq ⟨_,lO,rfl⟩ PySem.F.entry_tuple_eq (PySem.F.args_tuple_eq_2 _ _) (hF l a items es n ep Ib dd GU sl) ⟨lO,ho,hq⟩)
   (fun _ hq=>fk D (T:= "tuple") ⟨_,lO,rfl⟩ PySem.F.sub_tuple_dict hq) (fun _ hq=>wpAny_isSame_ref_other' qZ lO ho (by simp) hq) (.inr hu) h)
  (fun prog w E Q h=>rc_ne_decline_or (k:=false) ⟨_,lO,rfl⟩ D.type (by decide) PySem.F.sub_dict_tuple PySem.F.slot_tuple_ne PySem.F.slot_dict_ne_refl
   (fun _ hq=>call_meets PySem.F.slot_tuple_ne ⟨_,lO,rfl⟩ PySem.F.entry_tuple_ne (PySem.F.args_tuple_ne_2 _ _) (gZ l a items es n ep Ib dd GU sl) ⟨lO,ho,hq⟩)
   (fun _ hq=>fj D (T:= "tuple") ⟨_,lO,rfl⟩ PySem.F.sub_tuple_dict hq) (fun _ hq=>wpAny_isSame_ref_other' qZ lO ho (by simp) hq) (.inr hu) h)
theorem uS(hl:s.heap.IsTuple l items)(D:DS s.heap a kvs)(hu:A.units<cLine):eK A s (.ref a) (.ref l) false:=by
 have qZ:=m9 hl D
 refine FW D.at fun dd es ep sl ho=>?_
 obtain ⟨⟨cls,Ib,data,GU⟩,lO,hc,n,hd⟩:=id hl
 simp only at hc hd
 subst hc hd
 exact sY (beq_eq_false_iff_ne.mpr fun e=>qZ.symm (by injection e))
  (fun prog w E Q h=>rc_eq_decline_or (k:=false) D.type ⟨_,lO,rfl⟩ (by decide) PySem.F.sub_tuple_dict PySem.F.slot_dict_eq PySem.F.slot_tuple_eq_refl
   (fun _ hq=>fk D (T:= "tuple") ⟨_,lO,rfl⟩ PySem.F.sub_tuple_dict hq)
   (fun _ hq=>call_meets PySem.F.slot_tuple_eq_refl ⟨_,lO,rfl⟩ PySem.F.entry_tuple_eq (PySem.F.args_tuple_eq_2 _ _) (hF l a items es n ep Ib dd GU sl) ⟨lO,ho,hq⟩) (fun _ hq=>wpAny_isSame_ref_other qZ.symm ho lO (by simp) hq) (.inr hu) h)
  (fun prog w E Q h=>rc_ne_decline_or (k:=false) D.type ⟨_,lO,rfl⟩ (by decide) PySem.F.sub_tuple_dict PySem.F.slot_dict_ne PySem.F.slot_tuple_ne_refl
   (fun _ hq=>fj D (T:= "tuple") ⟨_,lO,rfl⟩ PySem.F.sub_tuple_dict hq)
   (fun _ hq=>call_meets PySem.F.slot_tuple_ne_refl ⟨_,lO,rfl⟩ PySem.F.entry_tuple_ne (PySem.F.args_tuple_ne_2 _ _) (gZ l a items es n ep Ib dd GU sl) ⟨lO,ho,hq⟩) (fun _ hq=>wpAny_isSame_ref_other qZ.symm ho lO (by simp) hq) (.inr hu) h)
end
noncomputable def eo:PV->Nat
 | .cons _ r=>eo r+1
 | .ent _ _ r=>eo r+1
 |_=>0
noncomputable def fI(k:Str):PV->Option PV
 | .ent x a r=>if x=k then some a else fI k r
 |_=>none
noncomputable def jW:PV->Nat
 | .tup l=>jW l+1
 | .list l=>jW l+1
 | .dict l=>jW l+1
 | .cons a r=>max (jW a) (jW r)
 | .ent _ a r=>max (jW a) (jW r)
 |_=>0
noncomputable def yy(y:PV)(n:Bool)(i:Int->Bool)(s:Str->Bool)(t l d:PV->Bool)(c:PV->PV->Bool):Bool:=PV.casesOn y n i s t l d false c fun _ _ _=>false
noncomputable def oM(x:Option PV)(f:PV->Bool)(d:Bool):Bool:=Option.rec d f x
noncomputable def kF{α:Type}(_:α):Bool:=false
noncomputable def kT{α:Type}(_:α):Bool:=true
noncomputable def BP(_ _:PV):Bool:=false
noncomputable def gG(x:PV):PV->Bool:=PV.rec (motive:=fun _=>PV->Bool) (fun y=>yy y true kF kF kF kF kF BP) (fun i y=>yy y false (fun j=>i==j) kF kF kF kF BP) (fun s y=>yy y false kF (fun t=>s==t) kF kF kF BP)
 (fun a e y=>yy y false kF kF (fun b=>eo a==eo b&&e b) kF kF BP) (fun a e y=>yy y false kF kF kF (fun b=>eo a==eo b&&e b) kF BP) (fun a e y=>yy y false kF kF kF kF (fun b=>eo a==eo b&&e b) BP)
 (fun _=>true) (fun _ _ e f y=>yy y false kF kF kF kF kF fun b q=>e b&&f q) (fun k _ _ e f b=>oM (fI k b) (fun y=>e y&&f b) false) x
noncomputable def kS(x:PV):PV->Bool:=PV.rec (motive:=fun _=>PV->Bool) (fun y=>yy y true kT kT kT kF kT BP) (fun _ y=>yy y true kT kF kF kF kF BP) (fun _ y=>yy y true kF kT kT kF kT BP)
 (fun a e y=>yy y true kF kT (fun b=>eo a==eo b&&e b) kF kT BP) (fun a e y=>yy y false kF kF kF (fun b=>(eo a !=eo b)||e b) kF BP) (fun a e y=>yy y true kF kT kT kF (fun b=>(eo a !=eo b)||e b) BP)
 (fun _=>true) (fun _ _ e f y=>yy y false kF kF kF kF kF fun b q=>e b&&f q) (fun k _ _ e f b=>oM (fI k b) (fun y=>e y&&f b) true) x
noncomputable abbrev Em:Int->Value->Prop:=fun i v=>∃t,v= .int i t
noncomputable abbrev Is(prog:Program)(w:PySem.World)(fx:List (Addr×Obj)):PV->PT->Prop:=IsL prog w fx Em
section
theorem IsL.lD:∀{x:PV} {vs:List Value},Is prog w fx x (.l vs)->eo x=vs.length:=by
 intro x
 induction x with
 |nil=>intro vs i;have q:vs=[]:=i.inv;subst q;rfl
 |cons _ _ _ ih=>intro vs i;refine dM i.inv fun _ _ q _ g=>?_;subst q;exact congrArg (· + 1) (ih g)
 |_=>intro vs i;exact False.elim i.inv
theorem IsL.AH:∀{x:PV} {kvs:List (Str×Value)},Is prog w fx x (.d kvs)->eo x=kvs.length:=by
 intro x
 induction x with
 |nil=>intro vs i;have q:vs=[]:=i.inv;subst q;rfl
 |ent _ _ _ _ ih=>intro vs i;refine dM i.inv fun _ _ q _ g=>?_;subst q;exact congrArg (· + 1) (ih g)
 |_=>intro vs i;exact False.elim i.inv
theorem cA(x k:Str)(u:Value)(kvs:List (Str×Value)):valueAt ((x,u)::kvs) k=if x=k then some u else valueAt kvs k:=by
 unfold valueAt
 refine aa List.find?_cons ?_
 by_cases h:x=k
 ·subst h;simp
 ·exact aa (decide_eq_false h) (aa (if_neg h) rfl)
theorem IsL.look(i:Is prog w fx x (.d kvs))(k:Str):match fI k x with
  |Option.some y=>∃u,valueAt kvs k=some u/\Is prog w fx y (.v u)
  |Option.none=>valueAt kvs k=Option.none:=by
 generalize e:PT.d kvs=t at i
 induction i generalizing kvs with
 |xP=>cases e;rfl
 |ent i1 _ _ ih=>
  cases e
  unfold fI
  refine aa (cA ..) ?_
  split
  ·rename_i y h
   split at h
   ·have cw:=aH h;clear h;subst cw;refine aa (if_pos ‹_›) ?_;exact ⟨_,rfl,i1⟩
   ·refine aa (if_neg ‹_›) ?_;have:=ih rfl;replace this:=h▸this;exact this
  ·rename_i h
   split at h
   ·cases h
   ·refine aa (if_neg ‹_›) ?_;have:=ih rfl;replace this:=h▸this;exact this
 |_=>cases e
theorem LD:∀{l:List DictEntry} {k1 k2:List (Str×Value)},tQ l k1->tQ l k2->k1=k2:=by
 intro l k1 k2 p
 induction p generalizing k2 with
 |nil=>intro q;cases q;rfl
 |cons e1 e2 _ ih=>
  intro q
  cases q with
  |cons f1 f2 q'=>
   have f:=e1.symm.trans f1;injection f with g _
   exact aa (ih q') (aa (Eq.symm e2) (aa (Eq.symm f2) (aa g rfl)))
theorem and_2(h:a=true)(g:b=true):(a&&b)=true:=by subst h g;rfl
noncomputable def dec(v:Value):Nat:=match v with
 | .type s=>if s= "tuple" then 3 else if s= "list" then 4 else if s= "dict" then 5 else 6
 |_=>6
noncomputable def KV(fx:List (Addr×Obj))(n:Nat)(v:Value):Prop:=match v with
 | .none=>n=0
 | .int _ _=>n=1
 | .str _ _=>n=2
 | .ref a=>∃ob,(a,ob)∈fx/\n=dec ob.cls
 |_=>False
theorem IsL.kv(i:Is prog w fx x (.v v)):KV fx x.ctorIdx v:=by
 induction x using PV.casesOn with
 |none=>have q:v= .none:=i.inv;subst q;rfl
 |int=>refine aU i.inv fun t q=>?_;subst q;rfl
 |str=>refine aU i.inv fun t q=>?_;subst q;rfl
 |tup=>refine gW i.inv fun _ ob _ _ q a b _ _ _=>?_;subst q;exact ⟨ob,a,b▸rfl⟩
 |list=>refine gW i.inv fun _ ob _ _ q a b _ _ _=>?_;subst q;exact ⟨ob,a,b▸rfl⟩
 |dict=>refine eL i.inv fun _ ob _ q a b _ _ _=>?_;subst q;refine iJ b fun _ _ h _=>?_;exact ⟨ob,a,h.1▸rfl⟩
 |_=>exact False.elim i.inv
theorem KV.one(fn:∀a o o',(a,o)∈fx->(a,o')∈fx->o=o')(h:KV fx n v)(g:KV fx m v):n=m:=by
 induction v using Value.casesOn with
 |ref a=>refine ay h fun o h1 h2=>ay g fun o' g1 g2=>?_;exact h2.trans ((congrArg (fun o:Obj=>dec o.cls) (fn a o o' h1 g1)).trans g2.symm)
 |none=>exact Eq.trans h (Eq.symm g)
 |int=>exact Eq.trans h (Eq.symm g)
 |str=>exact Eq.trans h (Eq.symm g)
 |_=>exact False.elim h
theorem OW(fn:∀a o o',(a,o)∈fx->(a,o')∈fx->o=o'):∀x:PV,(∀v y,Is prog w fx x (.v v)->Is prog w fx y (.v v)->gG x y=true)/\(∀vs y,Is prog w fx x (.l vs)->Is prog w fx y (.l vs)->gG x y=true)/\
  (∀kvs kb y,(kvs.map (·.1)).Nodup->Is prog w fx x (.d kvs)->Is prog w fx y (.d kb)->(∀k u,valueAt kvs k=some u->valueAt kb k=some u)->gG x y=true):=by
 have seq:∀{a:Addr} {o o':Obj} {vs us:List Value} {n m:Nat},(a,o)∈fx->(a,o')∈fx->o.data= .seq (List.toArray vs) n->o'.data= .seq (List.toArray us) m->vs=us:=fun {_ o o' _ _ _ _} h g d e=>by
  have q:=fn _ o o' h g
  subst q
  exact congrArg Array.toList (Data.seq.inj (d.symm.trans e)).1
 intro x
 induction x with
 |nil=>exact ⟨fun _ _ i=>False.elim i.inv,fun _ _ _ _=>rfl,fun _ _ _ _ _ _ _=>rfl⟩
 |cons a r i1 i2=>
  refine ⟨fun _ _ i=>False.elim i.inv,fun vs y i j=>?_,fun _ _ _ _ i=>False.elim i.inv⟩
  refine dM i.inv fun v q e h1 h2=>?_;clear i;subst e
  induction y using PV.casesOn with
  |nil=>exact zK j.inv
  |cons b s=>refine dM j.inv fun v' q' e g1 g2=>?_;clear j;injection e with e1 e2;subst e1 e2;exact and_2 (i1.1 _ _ h1 g1) (i2.2.1 _ _ h2 g2)
  |_=>exact False.elim j.inv
 |ent k a r i1 i2=>
  refine ⟨fun _ _ i=>False.elim i.inv,fun _ _ i=>False.elim i.inv,fun kvs kb y nd i j hk=>?_⟩
  refine dM i.inv fun v q e h1 h2=>?_;clear i;subst e
  have nd:=List.nodup_cons.mp nd
  show oM (fI k y) (fun z=>gG a z&&gG r y) false=true
  have lk:=j.look k
  have hv:=hk k v (by rw [cA,if_pos rfl])
  generalize fI k y=o at lk
  induction o with
  |none=>exact zN (hv.symm.trans lk)
  |some z=>
   refine ay lk fun u e1 e2=>?_;clear lk
   have q:=aH (hv.symm.trans e1)
   subst q
   refine and_2 (i1.1 _ _ h1 e2) (i2.2.2 _ _ _ nd.2 h2 j fun k' u' h=>hk k' u' ?_)
   rw [cA]
   refine (if_neg fun q=>nd.1 ?_).trans h
   subst q
   unfold valueAt at h
   refine ay (Option.map_eq_some_iff.mp h) fun p hp _=>?_
   have:=List.find?_some hp
   simp only [decide_eq_true_eq] at this
   exact List.mem_map.mpr ⟨p,List.mem_of_find?_eq_some hp,this⟩
 |tup l ih=>
  refine ⟨fun v y i j=>?_,fun _ _ i=>False.elim i.inv,fun _ _ _ _ i=>False.elim i.inv⟩
  have k:=KV.one fn i.kv j.kv
  induction y using PV.casesOn<;>first
  |exact zB k rfl
  |(refine gW i.inv fun _ _ _ _ q a _ d _ h=>gW j.inv fun _ _ _ _ q' a' _ d' _ h'=>?_;have e:=Value.ref.inj (q.symm.trans q');subst e;have e:=seq a a' d d';subst e;exact and_2 (aa h.lD (aa h'.lD (beq_self_eq_true _))) (ih.2.1 _ _ h h'))
 |list l ih=>
  refine ⟨fun v y i j=>?_,fun _ _ i=>False.elim i.inv,fun _ _ _ _ i=>False.elim i.inv⟩
  have k:=KV.one fn i.kv j.kv
  induction y using PV.casesOn<;>first
  |exact zB k rfl
  |(refine gW i.inv fun _ _ _ _ q a _ d _ h=>gW j.inv fun _ _ _ _ q' a' _ d' _ h'=>?_;have e:=Value.ref.inj (q.symm.trans q');subst e;have e:=seq a a' d d';subst e;exact and_2 (aa h.lD (aa h'.lD (beq_self_eq_true _))) (ih.2.1 _ _ h h'))
 |dict l ih=>
  refine ⟨fun v y i j=>?_,fun _ _ i=>False.elim i.inv,fun _ _ _ _ i=>False.elim i.inv⟩
  have k:=KV.one fn i.kv j.kv
  induction y using PV.casesOn<;>first
  |exact zB k rfl
  |(refine eL i.inv fun _ _ _ q a d _ _ h=>eL j.inv fun _ _ _ q' a' d' _ _ h'=>?_;have e:=Value.ref.inj (q.symm.trans q');subst e;have e:=fn _ _ _ a a';subst e;refine jB d fun es ep _ h1 _ h2 nd=>jB d' fun rq ep' _ Vd _ h2' _=>?_;have e:=h1.symm.trans Vd;injection e with e _;subst e;have e:=LD (.of h2) (.of h2');subst e;exact and_2 (aa h.AH (aa h'.AH (beq_self_eq_true _))) (ih.2.2 _ _ _ nd h h' fun _ _ h=>h))
 |_=>
  refine ⟨fun v y i j=>?_,fun _ _ i=>False.elim i.inv,fun _ _ _ _ i=>False.elim i.inv⟩
  have k:=KV.one fn i.kv j.kv
  induction y using PV.casesOn<;>first
  |exact zB k rfl
  |rfl
  |(refine aU i.inv fun t q=>aU j.inv fun t' q'=>?_;have e:=q.symm.trans q';injection e with e;subst e;exact beq_self_eq_true _)
end
section
variable {prog:Program}{w:PySem.World}{fx:List (Addr×Obj)}{s:Shared}
theorem Vk(hx:∀p∈fx,s.heap.get? p.1=some p.2):∀a o o',(a,o)∈fx->(a,o')∈fx->o=o':=fun a o o' h h'=>aH ((hx _ h).symm.trans (hx _ h'))
theorem oG{n:Nat}{e:Nat->Bool}:(List.range (n+1)).all e=(e 0&&(List.range n).all fun j=>e (j+1)):=by
 rw [List.range_succ_eq_map,List.all_cons,List.all_map];rfl
theorem nX{A:Around}{x y:PV}{a b:Addr}(hx:∀p∈fx,s.heap.get? p.1=some p.2)(i:Is prog w fx x (.v (.ref a)))(j:Is prog w fx y (.v (.ref b)))(h1:RcAt A s (.ref a) (.ref b) (gG x y))(h2:RcNeAt A s (.ref a) (.ref b) (!gG x y)):
  eK A s (.ref a) (.ref b) (gG x y):=by
 refine ⟨?_,h1,h2⟩
 by_cases q:a=b
 ·subst q
  exact ((OW (Vk hx) x).1 _ y i j)▸EqAt.same _
 ·exact EqAt.of_refs q h1
theorem dt{A:Around}(hx:∀p∈fx,s.heap.get? p.1=some p.2){a:Addr}{ob:Obj}{vs:List Value}{n:Nat}(h:(a,ob)∈fx)(hc:ob.cls= .type "tuple") (hd:ob.data= .seq (List.toArray vs) n):IsTup s.heap a vs.toArray:=⟨ob,hx _ h,hc,n,hd⟩
theorem isL(hx:∀p∈fx,s.heap.get? p.1=some p.2){a:Addr}{ob:Obj}{vs:List Value}{n:Nat}(h:(a,ob)∈fx)(hc:ob.cls= .type "list") (hd:ob.data= .seq (List.toArray vs) n):s.heap.IsList a vs.toArray:=⟨ob,hx _ h,hc,n,hd⟩
theorem nc(hx:∀p∈fx,s.heap.get? p.1=some p.2){a:Addr}{ob:Obj}{kvs:List (Str×Value)}(h:(a,ob)∈fx)(hd:ob.IsDictOf (strKind prog w) kvs)(lo:(a==sysModules)=false):DS s.heap a kvs:= .of (hx _ h) hd lo
theorem uz{a p c:Nat}(h:a+p+20<c):a<c:=Nat.lt_of_le_of_lt (Nat.le_trans (Nat.le_add_right a p) (Nat.le_add_right _ 20)) h
theorem ui{A:Around}{p c:Nat}(h:A.units+(p+1)+20<c):A.in1.units+p+20<c:=by show A.units+1+p+20<c;rw [Nat.add_right_comm A.units 1 p];exact h
theorem um{a p q c:Nat}(h:a+max p q+20<c):a+p+20<c/\a+q+20<c:=⟨Nat.lt_of_le_of_lt (Nat.add_le_add_right (Nat.add_le_add_left (Nat.le_max_left p q) a) 20) h,Nat.lt_of_le_of_lt (Nat.add_le_add_right (Nat.add_le_add_left (Nat.le_max_right p q) a) 20) h⟩
variable (prog w fx s) in
noncomputable def DP(x y:PV)(A:Around):Prop:=
 (∀u v,Is prog w fx x (.v u)->Is prog w fx y (.v v)->eK A s u v (gG x y))/\
 (∀vs us,Is prog w fx x (.l vs)->Is prog w fx y (.l us)->vs.length=us.length->∃e:Nat->Bool,(∀j u v,vs[j]?=some u->us[j]?=some v->EqAt A s u v (e j))/\(List.range vs.length).all e=gG x y)/\
 (∀kvs qg,Is prog w fx x (.d kvs)->Is prog w fx y (.d qg)->KeqHits A s qg kvs (gG x y))
theorem DP.val{x y:PV}{A:Around}(h:∀u v,Is prog w fx x (.v u)->Is prog w fx y (.v v)->eK A s u v (gG x y))(n1:∀t,My prog w fx Em x (.l t)=False)(n2:∀t,My prog w fx Em x (.d t)=False):DP prog w fx s x y A:=
 ⟨h,fun _ _ i=>False.elim (n1 _▸i.inv),fun _ _ i=>False.elim (n2 _▸i.inv)⟩
theorem Fl{A:Around}{l l2:PV}{u v:Value}(hx:∀p∈fx,s.heap.get? p.1=some p.2)(h0:A.units<cLine)(ok:kS (.tup l) (.tup l2)=true)(i:Is prog w fx (.tup l) (.v u))(j:Is prog w fx (.tup l2) (.v v))(ih:kS l l2=true->DP prog w fx s l l2 A.in1):eK A s u v (gG (.tup l) (.tup l2)):=by
 refine gW i.inv fun a1 o1 vs n1 q a b c d e=>?_;subst q
 refine gW j.inv fun a2 o2 us n2 q a' b' c' d' e'=>?_;subst q
 have ht:=dt (A:=A) hx a b c
 have BR:=dt (A:=A) hx a' b' c'
 have qf:(eo l==eo l2&&kS l l2)=true:=ok
 rw [Bool.and_eq_true,beq_iff_eq,e.lD,e'.lD] at qf
 refine ay ((ih qf.2).2.1 vs us e e' qf.1) fun f h1 h2=>?_
 have he:∀j (p1:j<vs.toArray.size) (p2:j<us.toArray.size),EqAt A.in1 s vs.toArray[j] us.toArray[j] (f j):=fun j p1 p2=>h1 j _ _ (by simp) (by simp)
 have hz:((List.range (min vs.toArray.size us.toArray.size)).all f&&vs.toArray.size==us.toArray.size)=gG (.tup l) (.tup l2):=by
  show _=(eo l==eo l2&&gG l l2)
  rw [List.size_toArray,List.size_toArray,<-qf.1,Nat.min_self,h2,beq_self_eq_true,Bool.and_true,e.lD,e'.lD,qf.1,beq_self_eq_true,Bool.true_and]
 exact nX hx i j (hz▸RcAt.tuples ht BR h0 he) (hz▸RcNeAt.tuples ht BR h0 he)
theorem Bt{A:Around}{l l2:PV}{u v:Value}(hx:∀p∈fx,s.heap.get? p.1=some p.2)(h0:A.units<cLine)(ok:kS (.list l) (.list l2)=true)(i:Is prog w fx (.list l) (.v u))(j:Is prog w fx (.list l2) (.v v))(ih:kS l l2=true->DP prog w fx s l l2 A.in1):eK A s u v (gG (.list l) (.list l2)):=by
 refine gW i.inv fun a1 o1 vs n1 q a b c d e=>?_;subst q
 refine gW j.inv fun a2 o2 us n2 q a' b' c' d' e'=>?_;subst q
 have ht:=isL (s:=s) hx a b c
 have BR:=isL (s:=s) hx a' b' c'
 by_cases hl:vs.length=us.length
 ·have qf:((eo l !=eo l2)||kS l l2)=true:=ok
  rw [e.lD,e'.lD,hl,bne_self_eq_false,Bool.false_or] at qf
  refine ay ((ih qf).2.1 vs us e e' hl) fun f h1 h2=>?_
  have he:∀j (p1:j<vs.toArray.size) (p2:j<us.toArray.size),EqAt A.in1 s vs.toArray[j] us.toArray[j] (f j):=fun j p1 p2=>h1 j _ _ (by simp) (by simp)
  have hz:(List.range vs.toArray.size).all f=gG (.list l) (.list l2):=by
   show _=(eo l==eo l2&&gG l l2)
   rw [List.size_toArray,h2,e.lD,e'.lD,hl,beq_self_eq_true,Bool.true_and]
  have hs:vs.toArray.size=us.toArray.size:=hl
  exact nX hx i j (hz▸RcAt.lists ht BR hs h0 he) (hz▸RcNeAt.lists ht BR hs h0 he)
 ·have hz:gG (.list l) (.list l2)=false:=by show (eo l==eo l2&&gG l l2)=false;rw [e.lD,e'.lD,beq_eq_false_iff_ne.mpr hl,Bool.false_and]
  have hs:(vs.toArray.size !=us.toArray.size)=true:=bne_iff_ne.mpr hl
  exact nX hx i j (aa hz (RcAt.lists_lengths ht BR hs h0)) (aa hz (RcNeAt.lists_lengths ht BR hs h0))
theorem Bu{A:Around}{l l2:PV}{u v:Value}(hx:∀p∈fx,s.heap.get? p.1=some p.2)(h0:A.units<cLine)(ok:kS (.dict l) (.dict l2)=true)(i:Is prog w fx (.dict l) (.v u))(j:Is prog w fx (.dict l2) (.v v))(ih:kS l l2=true->DP prog w fx s l l2 A.in1):eK A s u v (gG (.dict l) (.dict l2)):=by
 refine eL i.inv fun a1 o1 kvs q a b c d e=>?_;subst q
 refine eL j.inv fun a2 o2 qg q a' b' c' d' e'=>?_;subst q
 have ht:=nc hx a b c
 have BR:=nc hx a' b' c'
 have hits:kvs.length=qg.length->KeqHits A.in1 s qg kvs (gG l l2):=fun hl=>by
  have qf:((eo l !=eo l2)||kS l l2)=true:=ok
  rw [e.AH,e'.AH,hl,bne_self_eq_false,Bool.false_or] at qf
  exact (ih qf).2.2 kvs qg e e'
 have hz:(kvs.length==qg.length&&gG l l2)=gG (.dict l) (.dict l2):=by show _=(eo l==eo l2&&gG l l2);rw [e.AH,e'.AH]
 exact nX hx i j (hz▸Ds ht BR h0 hits) (hz▸wY ht BR h0 hits)
theorem deep(hx:∀p∈fx,s.heap.get? p.1=some p.2):∀(x y:PV) (A:Around),A.units+jW x+20<cLine->kS x y=true->DP prog w fx s x y A:=by
 intro x
 induction x with
 |none=>
  intro y A hu ok
  refine .val (fun u v i j=>?_) (fun _=>rfl) fun _=>rfl
  have q:u= .none:=i.inv
  have h0:=uz hu
  clear i hu;subst q
  induction y using PV.casesOn with
  |none=>have q:v= .none:=j.inv;clear j;subst q;exact ⟨EqAt.same _,RcAt.none_none,RcNeAt.none_none⟩
  |int=>refine aU j.inv fun t q=>?_;clear j;subst q;exact ⟨EqAt.none_int _ _,RcAt.none_int _ _,RcNeAt.none_int _ _⟩
  |str=>refine aU j.inv fun t q=>?_;clear j;subst q;exact ⟨EqAt.none_str _ _,RcAt.none_str _ _,RcNeAt.none_str _ _⟩
  |tup=>refine gW j.inv fun _ _ _ _ q a b c _ _=>?_;clear j;subst q;exact ⟨EqAt.none_tuple (dt (A:=A) hx a b c) h0,RcAt.none_tuple (dt (A:=A) hx a b c) h0,RcNeAt.none_tuple (dt (A:=A) hx a b c) h0⟩
  |dict=>refine eL j.inv fun _ _ _ q a b c _ _=>?_;clear j;subst q;exact sF (nc hx a b c) h0
  |_=>first | exact zT ok | exact False.elim j.inv
 |int n=>
  intro y A hu ok
  refine .val (fun u v i j=>?_) (fun _=>rfl) fun _=>rfl
  refine aU i.inv fun t q=>?_;clear i hu;subst q
  induction y using PV.casesOn with
  |none=>have q:v= .none:=j.inv;clear j;subst q;exact ⟨EqAt.int_none _ _,RcAt.int_none _ _,RcNeAt.int_none _ _⟩
  |int=>refine aU j.inv fun t q=>?_;clear j;subst q;exact ⟨EqAt.int_int _ _ _ _,RcAt.int_int _ _ _ _,RcNeAt.int_int _ _ _ _⟩
  |_=>first | exact zT ok | exact False.elim j.inv
 |str z=>
  intro y A hu ok
  refine .val (fun u v i j=>?_) (fun _=>rfl) fun _=>rfl
  have h0:=uz hu
  refine aU i.inv fun t q=>?_;clear i hu;subst q
  induction y using PV.casesOn with
  |none=>have q:v= .none:=j.inv;clear j;subst q;exact ⟨EqAt.str_none _ _,RcAt.str_none _ _,RcNeAt.str_none _ _⟩
  |str=>refine aU j.inv fun t q=>?_;clear j;subst q;exact lZ A s _ _ _ _
  |tup=>refine gW j.inv fun _ _ _ _ q a b c _ _=>?_;clear j;subst q;exact ⟨EqAt.str_tuple _ _ (dt (A:=A) hx a b c) h0,RcAt.str_tuple _ _ (dt (A:=A) hx a b c) h0,RcNeAt.str_tuple _ _ (dt (A:=A) hx a b c) h0⟩
  |dict=>refine eL j.inv fun _ _ _ q a b c _ _=>?_;clear j;subst q;exact uR (nc hx a b c) _ _ h0
  |_=>first | exact zT ok | exact False.elim j.inv
 |tup l ih=>
  intro y A hu ok
  refine .val (fun u v i j=>?_) (fun _=>rfl) fun _=>rfl
  have h0:=uz hu
  have ih:=fun y=>ih y A.in1 (ui hu)
  clear hu
  induction y using PV.casesOn with
  |tup l2=>exact Fl hx h0 ok i j (ih l2)
  |none=>refine gW i.inv fun _ _ _ _ q a b c _ _=>?_;clear i ih;subst q;have q:v= .none:=j.inv;clear j;subst q;exact ⟨EqAt.tuple_none (dt (A:=A) hx a b c) h0,RcAt.tuple_none (dt (A:=A) hx a b c) h0,RcNeAt.tuple_none (dt (A:=A) hx a b c) h0⟩
  |str=>refine gW i.inv fun _ _ _ _ q a b c _ _=>?_;clear i ih;subst q;refine aU j.inv fun t q=>?_;clear j;subst q;exact ⟨EqAt.tuple_str _ _ (dt (A:=A) hx a b c) h0,RcAt.tuple_str _ _ (dt (A:=A) hx a b c) h0,RcNeAt.tuple_str _ _ (dt (A:=A) hx a b c) h0⟩
  |dict=>refine gW i.inv fun _ _ _ _ q a b c _ _=>?_;clear i ih;subst q;refine eL j.inv fun _ _ _ q a' b' c' _ _=>?_;clear j;subst q;exact uQ (dt (A:=A) hx a b c) (nc hx a' b' c') h0
  |_=>first | exact zT ok | exact False.elim j.inv
 |list l ih=>
  intro y A hu ok
  refine .val (fun u v i j=>?_) (fun _=>rfl) fun _=>rfl
  have h0:=uz hu
  have ih:=fun y=>ih y A.in1 (ui hu)
  clear hu
  induction y using PV.casesOn with
  |list l2=>exact Bt hx h0 ok i j (ih l2)
  |_=>first | exact zT ok | exact False.elim j.inv
 |dict l ih=>
  intro y A hu ok
  refine .val (fun u v i j=>?_) (fun _=>rfl) fun _=>rfl
  have h0:=uz hu
  have ih:=fun y=>ih y A.in1 (ui hu)
  clear hu
  induction y using PV.casesOn with
  |dict l2=>exact Bu hx h0 ok i j (ih l2)
  |none=>refine eL i.inv fun _ _ _ q a b c _ _=>?_;clear i ih;subst q;have q:v= .none:=j.inv;clear j;subst q;exact sH (nc hx a b c) h0
  |str=>refine eL i.inv fun _ _ _ q a b c _ _=>?_;clear i ih;subst q;refine aU j.inv fun t q=>?_;clear j;subst q;exact uT (nc hx a b c) _ _ h0
  |tup=>refine eL i.inv fun _ _ _ q a b c _ _=>?_;clear i ih;subst q;refine gW j.inv fun _ _ _ _ q a' b' c' _ _=>?_;clear j;subst q;exact uS (dt (A:=A) hx a' b' c') (nc hx a b c) h0
  |_=>first | exact zT ok | exact False.elim j.inv
 |nil=>
  intro y A hu ok
  refine ⟨fun _ _ i=>False.elim i.inv,fun vs us i j hl=>?_,fun kvs qg i j=>?_⟩
  ·have q:vs=[]:=i.inv
   subst q
   exact ⟨fun _=>true,fun j u v e=>zS e,rfl⟩
  ·have q:kvs=[]:=i.inv
   subst q
   exact KeqHits.nil
 |cons a r i1 i2=>
  intro y A hu ok
  refine ⟨fun _ _ i=>False.elim i.inv,fun vs us i j hl=>?_,fun kvs qg i=>False.elim i.inv⟩
  have hm:=um hu
  refine dM i.inv fun u vs' q h1 h2=>?_;clear i hu;subst q
  induction y using PV.casesOn with
  |nil=>have q:us=[]:=j.inv;subst q;exact zK (List.length_eq_zero_iff.mp hl)
  |cons b q=>
   refine dM j.inv fun v us' q g1 g2=>?_;clear j;subst q
   have qf:(kS a b&&kS r q)=true:=ok
   rw [Bool.and_eq_true] at qf
   have k1:=(i1 b A hm.1 qf.1).1 _ _ h1 g1
   refine ay ((i2 q A hm.2 qf.2).2.1 _ _ h2 g2 (Nat.succ.inj hl)) fun f k2 k3=>?_
   clear i1 i2
   refine ⟨fun j=>Nat.rec (gG a b) (fun j _=>f j) j,fun j x z e1 e2=>?_,?_⟩
   ·induction j using Nat.casesOn with
    |zero=>have q1:=aH e1;have q2:=aH e2;clear e1 e2;subst q1 q2;exact k1.1
    |succ j=>exact k2 j x z e1 e2
   ·exact aa oG (congrArg (gG a b && ·) k3)
  |_=>first | exact zT ok | exact False.elim j.inv
 |ent k a r i1 i2=>
  intro y A hu ok
  refine ⟨fun _ _ i=>False.elim i.inv,fun vs us i=>False.elim i.inv,fun kvs qg i j=>?_⟩
  have hm:=um hu
  refine dM i.inv fun u kv q h1 h2=>?_;clear i hu;subst q
  have lk:=j.look k
  have ok:oM (fI k y) (fun z=>kS a z&&kS r y) true=true:=ok
  show KeqHits A s qg _ (oM (fI k y) (fun z=>gG a z&&gG r y) false)
  generalize fI k y=o at lk ok
  induction o with
  |none=>exact .miss lk
  |some z=>
   refine ay lk fun u e1 e2=>?_
   have ok:(kS a z&&kS r y)=true:=ok
   rw [Bool.and_eq_true] at ok
   exact .hit e1 ((i1 z A hm.1 ok.1).1 _ _ h1 e2).1 ((i2 y A hm.2 ok.2).2.2 _ _ h2 j)
theorem IsL.eqr{x y:PV}{u v:Value}(i:Is prog w fx x (.v u))(j:Is prog w fx y (.v v))(ok:kS x y=true)(hd:jW x<=100):Wt fx u v (gG x y):=fun A s hu hx=>
 (deep hx x y A (Nat.lt_of_le_of_lt (Nat.le_trans (Nat.add_le_add_right (Nat.add_le_add_left hd A.units) 20) (Nat.add_le_add_left (zd rfl:120<=200) A.units)) hu) ok).1 u v i j
end
end
section
open PySem
noncomputable section
noncomputable def dE(x:String)(v:AV):Nat×Str×AV:=(code (S x),S x,v)
noncomputable def sA(x:String):AV:= .str (S x)
noncomputable def Az:List String:=["M", "G:1", "G:2", "G:3", "Gx", "U", "V"]
noncomputable def nmC:List Nat:=Az.map fun x=>code (S x)
noncomputable def Ig(k:Nat):Nat:=k
noncomputable def adh(k:Nat):Nat:=7+k
noncomputable def Xg(k:Nat):Nat:=14+4*k
noncomputable def dK:Nat:=42
noncomputable def f_(x:String)(v:AV):Nat×AV:=(code (S x),v)
noncomputable def Cr(n:String)(sub:Bool)(td:AV)(i:Nat):aL:=[f_ "name" (sA n),f_ "options" .none,f_ "setup_tasks" (.o i),f_ "actions" (.o (i+1)),f_ "dep_changed" .none,f_ "file_dep" (.o (i+2)),f_ "task_dep" td,f_ "wild_dep" (.o (i+3)),f_ "calc_dep" (.o (i+4)),
 f_ "getargs" (.o (i+5)),f_ "value_savers" (.o (i+6)),f_ "uptodate" (.o (i+7)),f_ "targets" (.o (i+8)),f_ "subtask_of" .none,f_ "has_subtask" (.bool sub),f_ "result" .none,f_ "values" (.o (i+9)),f_ "executed" (.bool false)]
noncomputable def dL(xs:List String)(f:Nat->AV):bk:=(xs.zipIdx).map fun p=>dE p.1 (f p.2)
noncomputable def Xf:List (Nat×bk×Option Nat):=(Az.zipIdx).map fun p=>(code (S p.1),[],some (Xg p.2))
noncomputable def vX(subs:List String):List AO:=
 [.cy, .db Xf, .inst 190 [f_ "_db" (.o 1)], .dict [], .inst 267 [f_ "files" (.o 3)], .inst 427 [f_ "_closed" (.bool false),f_ "checker" (.o 4),f_ "backend" (.o 2)],
 .list (subs.map sA), .dict (dL Az fun k=> .d (Ig k)), .dict (dL Az fun k=> .d (adh k)), .dict [dE "U" (.d dK),dE "V" (.d (dK+1))],
 .dict [dE "M" (.o 11),dE "G" (.o 12),dE "U" (.o 13)], .inst 573 (Cr "M" false (.o 24) 14), .inst 573 (Cr "G" true (.o 35) 25), .inst 573 (Cr "U" false (.o 46) 36)]
 ++ List.replicate 11 .gone++List.replicate 10 .gone ++ [.list (["Gx"].map sA++subs.map sA ++ ["M"].map sA)]++List.replicate 11 .gone
noncomputable def ahu(subs:List String):Mem:=Mem.of (vX subs)
noncomputable def dbI(m:Mem)(fs:aL):Option (Nat×List (Nat×bk×Option Nat)):=match fs with
 | [(k, .o i)]=>Bool.rec none (ob (m.get i) fun o=>match o with
  | .db tb=>some (i,tb)
  |_=>none) (Nat.beq k (code (S "_db")))
 |_=>none
noncomputable def Bv(m:Mem)(x:AV):Option (Nat×List (Nat×bk×Option Nat)):=match x with
 | .o j=>ob (m.get j) fun o=>match o with
  | .inst C fs=>Bool.rec none (dbI m fs) (Nat.beq C 190)
  |_=>none
 |_=>none
noncomputable def wt:List String:=["M", "G:1", "G:2", "G:3", "Gx", "U", "V", "Q"]
noncomputable def isQ(s:Str):Bool:=dG (code s) (wt.map fun x=>code (S x))
noncomputable def vR(tb:List (Nat×bk×Option Nat))(s k:Nat):Option AV:=match ah s tb with
 |none=>some .none
 |some de=>match bP k de.1 with
  |some v=>some v
  |none=>match de.2 with
   |none=>some .none
   |some b=>ob (gI k) fun j=>some (.d (b+j))
noncomputable def yr(m:Mem)(nd:Nat)(pos:List AV):Option (AV×Mem×Nat):=match pos with
 | [x, .str s, .str k]=>Bool.rec none (ob (Bv m x) fun p=>ob (gI (code k)) fun _=>ob (vR p.2 (code s) (code k)) fun v=>some (v,m,nd)) (isQ s)
 |_=>none
noncomputable def yt(m:Mem)(nd:Nat)(pos:List AV):Option (AV×Mem×Nat):=match pos with
 | [x, .str s, .str k,v]=>Bool.rec none (ob (Bv m x) fun p=>ob (ah (code s) p.2) fun de=>ob (gI (code k)) fun _=>some (.none,m.set p.1 (.db (b8 (code s) (jV k v de.1,de.2) p.2)),nd)) (isQ s)
 |_=>none
noncomputable def Fn(tg:Nat->Tg)(de:bk×Option Nat):Option Bool:=match de.1 with
 |_::_=>some true
 | []=>match de.2 with
  |none=>some false
  |some b=>match tg (b+2) with
   | .none=>some false
   | .str _=>some true
   |_=>none
noncomputable def yq(tg:Nat->Tg)(m:Mem)(nd:Nat)(pos:List AV):Option (AV×Mem×Nat):=match pos with
 | [x, .str s]=>Bool.rec none (ob (Bv m x) fun p=>ob (ah (code s) p.2) fun de=>ob (Fn tg de) fun b=>some (.bool b,m,nd)) (isQ s)
 |_=>none
noncomputable def yp(m:Mem)(nd:Nat)(pos:List AV):Option (AV×Mem×Nat):=match pos with
 | [x, .str s]=>Bool.rec none (ob (Bv m x) fun p=>ob (ah (code s) p.2) fun _=>some (.none,m.set p.1 (.db (b8 (code s) ([],none) p.2)),nd)) (isQ s)
 |_=>none
noncomputable def WI(tg:Nat->Tg)(a:Addr)(pos:List AV)(m:Mem)(nd:Nat):Option (AV×Mem×Nat):=
 cond (Nat.beq a 166) (yr m nd pos) (cond (Nat.beq a 159) (yt m nd pos) (cond (Nat.beq a 173) (yq tg m nd pos) (cond (Nat.beq a 180) (yp m nd pos) none)))
noncomputable def OF(l:List (Nat×Tg))(i:Nat):Tg:=Option.rec .any id (ah i l)
noncomputable def bB(n:Nat)(l:List (Nat×Tg)):List Tg:=(List.range n).map (OF l)
noncomputable def spT(l:List (Nat×Tg)):Addr->List AV->Mem->Nat->Option (AV×Mem×Nat):=WI (bN {aR with tags:=bB 70 l})
noncomputable def AA(s:String):Nat:=List.rec 0 (fun p _ ih=>Bool.rec (ih+1) 0 (sq (S p) (S s))) Az
noncomputable def OS(subs:List String):PV:= .dict (List.rec .nil (fun s _ r=> .ent (S s) (.int (Xg (AA s):Nat)) r) subs)
noncomputable def OR(subs:List String):PV:= .list (List.rec .nil (fun s _ r=> .cons (.tup (.cons (.str (S s)) (.cons (.int (Ig (AA s):Nat)) .nil))) r) subs)
inductive KU where
 |no | yes (bM bG:Bool)
noncomputable def cRM:Nat:=code (S "_result:M")
noncomputable def cRG:Nat:=code (S "_result:G")
noncomputable def cRU:Nat:=code (S "_result:U")
noncomputable def sa:KU->List (Nat×Tg)
 | .no=>[(42, .none),(35, .none),(36, .none),(37, .nG)]
 | .yes _ _=>[(42, .tuple),(35, .dict true),(36, .str true),(37, .nG),(52, .nn),(53, .nn)]
noncomputable def pU(subs:List String):KU->bA
 | .no=>{aR with tags:=bB 70 (sa .no),kn:=56,spec:=spT (sa .no)}
 | .yes bM bG=>{aR with tags:=bB 70 (sa (.yes bM bG)),eqs:=[(52,14,bM),(0,46,bM)],dg:=[(35,cRM,some 52),(35,cRG,some 53)],ds:=[(42,0,44),(42,1,45),(44,1,46),(45,1,47)],jO:=[(36,code (S "MD5Checker"),true)],kn:=56,pT:=[(false,53,OS subs,bG),(true,47,OR subs,bG)],spec:=spT (sa (.yes bM bG))}
noncomputable def rZ:KU->List (Nat×Tg)
 | .no=>[(43, .none),(39, .none),(40, .none),(41, .nG)]
 | .yes _ _=>[(43, .tuple),(39, .dict true),(40, .str true),(41, .nG),(54, .nn),(55, .nn)]
noncomputable def pV:KU->bA
 | .no=>{aR with tags:=bB 70 (rZ .no),kn:=56,spec:=spT (rZ .no)}
 | .yes bU bM=>{aR with tags:=bB 70 (rZ (.yes bU bM)),eqs:=[(54,34,bU),(5,50,bU),(55,14,bM),(0,51,bM)],dg:=[(39,cRU,some 54),(39,cRM,some 55)],ds:=[(43,0,48),(43,1,49),(48,1,50),(49,1,51)],jO:=[(40,code (S "MD5Checker"),true)],kn:=56,spec:=spT (rZ (.yes bU bM))}
end
end
section
open PySem PySem.W PySem.Calls PyProof.Rows PyProof.V PySem.Spec
structure eb(G:Gx):Prop where
 K:∃P,G.K=H.K P
 gl:G.gl=aT
 fns:G.P.fns=iH
 cls:G.P.cls=di
 kt:G.P.iW=mf
noncomputable def Gx.at(G:Gx)(P:bA)(I:Nat->Option Int):Gx:={G with P:=P,I:=I}
theorem eb.ga(t:eb G)(sp:tF G N):j6 G N:=by
 refine aU t.K fun P hK=>?_
 exact ⟨ab9 hK t.kt t.gl,Nf hK t.cls,Mv hK t.cls,MQ hK t.fns t.gl,sp⟩
theorem eb.at(t:eb G)(h1:P.fns=iH)(h2:P.cls=di)(h3:P.iW=mf):eb (G.at P I):=⟨t.K,t.gl,h1,h2,h3⟩
theorem z7(h:∀a p m n,G.P.spec a p m n=none):tF G 0:=fun n f fi pos σ z _ _ e=>by replace e:=(h ..)▸e;exact zS e
theorem Nz.of(S:Nz G A₀ A base outer h₀ L env n)(h:k<=n):Nz (G.at P I) A₀ A base outer h₀ L env k:=
 ⟨S.B,S.X,S.T,S.hA,S.hf,S.Ex,S.hh,Nat.le_trans (Nat.add_le_add_left (Nat.mul_le_mul_left 3 h) _) S.hd,Nat.le_trans (Nat.add_le_add_left (Nat.mul_le_mul_left 20 h) _) S.hu⟩
theorem inner(ga:j6 (G.at BI I) N)(io:dn (G.at BI I)){T:At}
  (ok:T.Ok G n b W) (hn:k+N<=n) (ak:Rep (G.at BI I) T.h₀ T.L EJ s.heap m W₁ aE) (hf:VR W₁ f v) (hv:bE W₁ pos us) (e:cH BI k f pos [] aE=some (a,aF))
  (P:∀W' h' tk u,W₁.le W'->Rep (G.at BI I) T.h₀ T.L EJ h' m W' aF->VR W' a u->Q u {s with heap:=h',toks:=tk}):wpAny (model G.prog G.w) T.A (call v us []) Q E s:=by
 have env:∃sc,mi W₁ EJ T.L (.fn sc) ⟨[],none⟩ T.aN T.aN:=by
  have:=ok.env
  induction b with
  |fn sc=>
   obtain ⟨_,_,cn,scope,ad,kX,cl,h3,h4,h5,_,h7⟩:=this
   exact ⟨sc,rfl,rfl,cn,scope,ad,kX,cl,h3,h4,h5,fun x i q=>(zS q),h7⟩
  |comp sc tL=>
   refine this.zg fun cn ba ad kX gu scope cl C oC m₂ y av u h1 h2 h3 h4 h5 h6 h7 dI h8 h9 Jj Xa W9=>?_;clear this
   exact ⟨tL,rfl,rfl,cn,ba,ad,kX,gu,h1,h2,h3,fun x i q=>(zS q),dI⟩
 refine aU env fun sc env=>?_
 exact (du ga io k).2 ⟨T.A₀,T.A,T.base,T.outer,T.h₀,T.L,T.aN,T.aN,EJ,⟨[],none⟩⟩ (.fn sc) W₁ m aE s f pos [] v us [] a aF Q E ⟨ok.gL.of hn,env⟩ ak hf hv .nil e P
theorem uc{ls:List (List α)}(hi:i<ls.length)(l:List α):(ls.set i l).flatten.Perm (l++(ls.set i []).flatten):=by
 have g:∀x:List α,ls.set i x=ls.take i++x::ls.drop (i+1):=fun x=>by exact aa List.set_eq_take_append_cons_drop (aa (if_pos hi) rfl)
 rw [g,g,List.flatten_append,List.flatten_append,List.flatten_cons,List.flatten_cons,List.nil_append,<-eP,<-eP]
 exact List.Perm.append_right _ List.perm_append_comm
theorem ub{ls:List α}(e:ls[i]?=some l):ls.set i l=ls:=by
 apply List.ext_getElem?
 intro j
 refine aa List.getElem?_set ?_
 split
 ·subst_vars
  split
  ·exact e.symm
  ·rename_i h;exact absurd (jN e).1 h
 ·rfl
theorem Cf{W:Wd}{fz:List (Addr×Obj)}(ne:j≠i)(ej:W.ls[j]?=some Lj)(ei:W.ls[i]?=some Li):
  ∃O,(W.news fz).Perm (Lj++(Li++O))/\∀l k,(((W.upd j l).upd i k).news fz).Perm (l++(k++O)):=by
 have hj:j<W.ls.length:=(jN ej).1
 have hi:i<W.ls.length:=(jN ei).1
 have key:∀l k,(((W.ls.set j l).set i k).flatten++(W.fx++fz)).Perm (l++(k++(((W.ls.set j []).set i []).flatten++(W.fx++fz)))):=fun l k=>by
  have p1:((W.ls.set j l).set i k).flatten.Perm (k++((W.ls.set j l).set i []).flatten):=uc (by refine aa List.length_set ?_;exact hi) k
  have p2:((W.ls.set j l).set i []).flatten.Perm (l++((W.ls.set j []).set i []).flatten):=by
   refine aa (List.set_comm _ _ ne) (aa (List.set_comm _ _ ne) ?_)
   exact uc (by refine aa List.length_set ?_;exact hj) l
  refine (List.Perm.append_right _ (p1.trans (List.Perm.append_left _ p2))).trans ?_
  refine aa (Eq.symm (eP k ..)) (aa (Eq.symm (eP l ..)) (aa (eP _ _ (W.fx++fz) ..) ?_))
  exact List.Perm.append_right _ List.perm_append_comm
 refine ⟨_,?_,key⟩
 have:=key Lj Li
 replace this:=(ub ej)▸this;replace this:=(ub ei)▸this
 exact this
theorem qP:∀(l:List AO) {m:Mem},m.ok->∀i,(m.j8 l).get i=if i<m.n then m.get i else l[i-m.n]?
 | [],m,k,i=>by
  refine aa (Mem.Aw ..) ?_
  split
  ·rfl
  ·rename_i h
   generalize e:m.get i=bZ;induction bZ with
   |none=>simp
   |some o=>exact absurd (Mem.lt k e) h
 |o::l,m,k,i=>by
  refine aa (Mem.oS ..) (aa (qP l (Mem.sv k o) i ..) (aa (Mem.pO k ..) (aa (Mem.DF ..) ?_)))
  by_cases h1:i<m.n
  ·exact aa (if_pos h1 ..) (aa (if_pos (Nat.lt_succ_of_lt h1) ..) (aa (if_neg (Nat.ne_of_lt h1) ..) rfl))
  ·refine aa (if_neg h1 ..) ?_
   by_cases h2:i=m.n
   ·subst h2;simp
   ·exact aa (if_neg (by omega)) (aa (show i-m.n=(i-(m.n+1))+1 by omega) (aa List.getElem?_cons_succ rfl))
theorem of_get(l:List AO)(i:Nat):(Mem.of l).get i=l[i]?:=by
 unfold Mem.of
 refine aa (qP l Mem.vN ..) ?_
 rfl
theorem yz:∀(l:List AO) (m:Mem),(m.j8 l).n=m.n+l.length
 | [],_=>rfl
 |o::l,m=>by refine aa (Mem.oS ..) (aa (yz l ..) (aa (Mem.DF ..) (aa (List.length_cons ..) ?_)));omega
theorem DV(l:List AO):(Mem.of l).n=l.length:=by unfold Mem.of;refine aa (yz ..) ?_;exact Nat.zero_add _
section
theorem mY.rest(h:mY prog w W kvs tb r):code s ∉ tb.map (·.1)->∀{W':Wd} {bf:List (Str×Value)},W.le W'->(∀y,y≠s->valueAt bf y=valueAt kvs y)->mY prog w W' bf tb r:=by
 induction h with
 |nil=>intro _ _ _ _ _;exact .nil
 |cons e0 _ ih=>
  intro hn W' bf le q
  rename_i y de0 l0 r0 IP _
  rw [List.map_cons,List.mem_cons,not_or] at hn
  refine .cons ?_ (ih hn.2 le q)
  refine aa (q y (fun z=>hn.1 (by rw [z]))) ?_;exact e0.mono le
theorem mY.split(h:mY prog w W kvs tb r)(e:ah (code s) tb=some de)(nd:(tb.map (·.1)).Nodup):
  ∃r1 l r2,r=r1++(l++r2)/\il prog w W de (valueAt kvs s) l/\∀{W':Wd} {bf:List (Str×Value)} {de':bk×Option Nat} {l':List (Addr×Obj)},W.le W'->(∀y,y≠s->valueAt bf y=valueAt kvs y)->il prog w W' de' (valueAt bf s) l'->mY prog w W' bf (b8 (code s) de' tb) (r1++(l'++r2)):=by
 induction h with
 |nil=>exact zS e
 |cons e0 h0 ih=>
  rename_i y de0 l0 r0 IP
  replace e:=(aI ..)▸e
  rw [List.map_cons,List.nodup_cons] at nd
  by_cases hy:code y=code s
  ·replace e:=(if_pos hy)▸e
   have dk:=aH e;clear e;subst dk
   have hy':=code_inj hy
   subst hy'
   refine ⟨[],l0,r0,rfl,e0,fun {W' bf de' l'} le q g=>?_⟩
   refine aa (eZ ..) (aa (if_pos rfl ..) ?_)
   show mY prog w W' bf _ (l'++r0)
   exact .cons g (h0.rest nd.1 le q)
  ·replace e:=(if_neg hy)▸e
   refine qB (ih e nd.2) fun r1 l r2 b7 g1 g2=>?_;clear h0 ih;subst b7
   refine ⟨l0++r1,l,r2,by simp [eP],g1,fun {W' bf de' l'} le q g=>?_⟩
   refine aa (eZ ..) (aa (if_neg hy ..) (aa (eP ..) ?_))
   refine .cons ?_ (g2 le q g)
   refine aa (q y (fun z=>hy (by rw [z]))) ?_;exact e0.mono le
theorem qO:∀{l:List (Nat×α)},(ah x l).isSome=true->(b8 x v l).map (·.1)=l.map (·.1)
 | [],h=>zT h
 |(a,b)::l,h=>by
  refine aa (eZ ..) ?_
  replace h:=(aI ..)▸h
  split
  ·rfl
  ·replace h:=(if_neg ‹_›)▸h
   exact aa List.map_cons (aa List.map_cons (aa (qO h) rfl))
end
theorem Fm(e:dbI m fs=some (i,tb)):fs=[(code (S "_db"), .o i)]/\m.get i=some (.db tb):=by
 induction fs using iM with
 |nil=>exact zS e
 |cons p r=>
 obtain ⟨k,v⟩:=p
 induction v with
 |o q=>
  induction r using iM with
  |cons _ _=>exact zS e
  |nil=>
  replace e:(Bool.rec none (ob (m.get q) fun o=>match o with | .db tb=>some (q,tb) | _=>none) (Nat.beq k (code (S "_db"))):Option (Nat×List (Nat×bk×Option Nat)))=some (i,tb):=e
  generalize hk:Nat.beq k (code (S "_db"))=c at e
  induction c with
  |false=>exact zS e
  |true=>
   refine ab e fun o e5 e6=>?_;clear e
   induction o with
   |db tb'=>refine eO e6 fun q2 q3=>?_;clear e6;subst q2 q3;exact ⟨by rw [iL hk],e5⟩
   |_=>exact zS e6
 |_=>exact zS e
theorem Ic(R:Rep G h₀ L fz h m W σ)(e:Bv σ.mem x=some (i,tb))(hx:VR W x v):
  ∃j,x= .o j/\j≠i/\σ.mem.get j=some (.inst 190 [(code (S "_db"), .o i)])/\σ.mem.get i=some (.db tb):=by
 clear hx
 induction x with
 |o j=>
  refine ab e fun o e1 e2=>?_;clear e
  induction o with
  |inst C fs=>
   replace e2:(Bool.rec none (dbI σ.mem fs) (Nat.beq C 190):Option (Nat×List (Nat×bk×Option Nat)))=some (i,tb):=e2
   generalize hC:Nat.beq C 190=c at e2
   induction c with
   |false=>exact zS e2
   |true=>
    refine aM (Fm e2) fun q1 q2=>?_;clear e2
    have q:=iL hC
    subst q q1
    exact ⟨j,rfl,(fun z=>by subst z;have:=e1.symm.trans q2;injection this with this;exact nomatch this),e1,q2⟩
  |_=>exact zS e2
 |_=>exact zS e
theorem sub_len [DecidableEq α]:∀{l k:List α},l.Nodup->(∀x∈l,x∈k)->l.length<=k.length
 | [],_,_,_=>Nat.zero_le _
 |a::l,k,nd,h=>by
  rw [List.nodup_cons] at nd
  have ha:=h a cg
  have:=sub_len (k:=k.erase a) nd.2 fun x hx=>(List.mem_erase_of_ne (fun e=>nd.1 (by refine aa (Eq.symm e) ?_;exact hx))).mpr (h x (fw _ hx))
  replace this:=(List.length_erase_of_mem ha)▸this
  have hp:0<k.length:=List.length_pos_of_mem ha
  refine aa List.length_cons ?_;omega
theorem jd{p:Str×Value}(h:p∈kvs):valueAt kvs p.1≠none:=by
 unfold valueAt
 intro e
 rw [Option.map_eq_none_iff,List.find?_eq_none] at e
 exact e p h (decide_eq_true rfl)
theorem je(h:∀p:Str×Value,p.1=y->f p=true):valueAt (kvs.filter f) y=valueAt kvs y:=by
 induction kvs with
 |nil=>rfl
 |cons p r ih=>
  obtain ⟨k,u⟩:=p
  refine aa (cA ..) ?_
  by_cases hk:k=y
  ·exact aa (List.filter_cons_of_pos (h _ hk) ..) (aa (cA ..) (aa (if_pos hk ..) (aa (if_pos hk ..) rfl)))
  ·refine aa (if_neg hk ..) (aa (List.filter_cons ..) ?_)
   split
   ·refine aa (cA ..) (aa (if_neg hk ..) ?_);exact ih
   ·exact ih
theorem lp:jE [(code s,ov)] p= !decide (p.1=s):=by
 unfold jE
 refine aa (aI ..) (aa (ib ..) ?_)
 by_cases h:code s=code p.1
 ·refine aa (if_pos h ..) (aa (decide_eq_true (code_inj h).symm ..) ?_);rfl
 ·refine aa (if_neg h ..) (aa (decide_eq_false fun e=>h (by rw [e])) ?_);rfl
theorem others(h:bf.filter (jE [(code s,WS)])=kvs.filter (jE [(code s,ov)]))(y:Str)(hy:y≠s):valueAt bf y=valueAt kvs y:=by
 have k:∀ov:Option AV,∀p:Str×Value,p.1=y->jE [(code s,ov)] p=true:=fun ov p e=>by refine aa lp (aa e (aa (decide_eq_false hy) ?_));rfl
 exact aa (Eq.symm (je (kvs:=kvs) (k ov))) (aa (Eq.symm h) (aa (je (k WS)) rfl))
theorem kE:∀{kvs:List (Str×Value)},(kvs.map (·.1)).Nodup->(kvs.map fun p=>code p.1).Nodup
 | [],_=>List.nodup_nil
 |p::r,h=>by
  rw [List.map_cons,List.nodup_cons] at h ⊢
  refine ⟨fun hm=>h.1 ?_,kE h.2⟩
  refine ay (nS hm) fun q hq e=>?_
  exact List.mem_map.mpr ⟨q,hq,code_inj e⟩
theorem yP{tb:List (Nat×bk×Option Nat)}(nd:(kvs.map (·.1)).Nodup)(h:∀s,valueAt kvs s≠none->(ah (code s) tb).isSome=true):kvs.length<=tb.length:=by
 have h1:(kvs.map fun p=>code p.1).Nodup:=kE nd
 have:=sub_len (k:=tb.map (·.1)) h1 fun x hx=>by
  refine ay (nS hx) fun p hp b7=>?_;clear hx;subst b7
  have:=h p.1 (jd hp)
  generalize e:ah (code p.1) tb=bZ;induction bZ with
  |none=>replace this:=e▸this;cases this
  |some z=>exact List.mem_map.mpr ⟨_,aO e,rfl⟩
 simpa using this
theorem EL{kvs:List (Str×Value)}(nd:(kvs.map (·.1)).Nodup)(h:∀p∈kvs,(gI (code p.1)).isSome=true):kvs.length<=4:=by
 have k:∀x,(gI x).isSome=true->x∈[code (S "deps:"),code (S "checker:"),code (S "_values_:"),code (S "result:")]:=fun x e=>by
  unfold gI at e
  replace e:=(eT ..)▸e;replace e:=(eT ..)▸e;replace e:=(eT ..)▸e;replace e:=(eT ..)▸e
  by_cases h1:x=code (S "deps:")
  ·refine aa h1 ?_;simp
  by_cases h2:x=code (S "checker:")
  ·refine aa h2 ?_;simp
  by_cases h3:x=code (S "_values_:")
  ·refine aa h3 ?_;simp
  by_cases h4:x=code (S "result:")
  ·refine aa h4 ?_;simp
  replace e:=(decide_eq_false h1)▸e;replace e:=(decide_eq_false h2)▸e;replace e:=(decide_eq_false h3)▸e;replace e:=(decide_eq_false h4)▸e
  cases e
 have h1:(kvs.map fun p=>code p.1).Nodup:=kE nd
 have:=sub_len h1 fun x hx=>by
  refine ay (nS hx) fun p hp cw=>?_;clear hx;subst cw
  exact k _ (h p hp)
 simpa using this
noncomputable def vV:Nat:=code (S "_db")
theorem Ie(R:Rep G h₀ L fz h m W σ)(ne:j≠i)
  (hj:σ.mem.get j=some (.inst 190 [(vV, .o i)])) (rj:W.bg[j]?=some aj) (ri:W.bg[i]?=some a) (lj:W.ls[j]?=some Lj) (li:W.ls[i]?=some Li)
  (pm:∀l k,(((W.upd j l).upd i k).news fz).Perm (l++(k++O))) (F:Fr h₀ L h' m) (N:News h₀ L h' Z) (nd:(Z.map (·.1)).Nodup) (pz:(l0++(l1++O)).Perm Z)
  (a0:jD G.prog G.w G.P ((W.upd j l0).upd i l1) aj (.inst 190 [(vV, .o i)]) l0) (a1:jD G.prog G.w G.P ((W.upd j l0).upd i l1) a (.db tb') l1) (F4:mem'.ok) (mn:mem'.n=σ.mem.n)
  (mg:∀q,mem'.get q=if q=i then some (.db tb') else σ.mem.get q):W.le ((W.upd j l0).upd i l1)/\Rep G h₀ L fz h' m ((W.upd j l0).upd i l1) ⟨σ.loc,mem',σ.nd⟩:=by
 have le:W.le ((W.upd j l0).upd i l1):=(W.aP j l0).trans ((W.upd j l0).aP i l1)
 have p:=(pm l0 l1).trans pz
 have hjl:j<W.ls.length:=(jN lj).1
 have hil:i<W.ls.length:=(jN li).1
 refine ⟨le,F,fun q hq=>N q (p.mem_iff.mp hq),(p.map (·.1)).nodup_iff.mpr nd,F4,by refine aa mn ?_;exact R.n1,?_,R.n3,fun q o e=>?_,R.loc.mono le,⟨R.dat.tag,R.dat.eq,R.dat.int,R.dat.hd,R.dat.jO,R.dat.dg,R.dat.ds,R.dat.pT⟩⟩
 ·show ((W.ls.set j l0).set i l1).length=mem'.n
  refine aa List.length_set (aa List.length_set (aa mn ?_));exact R.n2
 ·have e':mem'.get q=some o:=e
  replace e':=(mg ..)▸e'
  by_cases h1:q=i
  ·replace e':=(if_pos h1)▸e'
   have dC:=aH e';clear e';clear e;subst dC
   subst h1
   exact ⟨a,l1,ri,by show ((W.ls.set j l0).set q l1)[q]?=_;exact aa (List.getElem?_set_self (by rw [List.length_set];exact hil)) rfl,a1⟩
  ·replace e':=(if_neg h1)▸e'
   by_cases h2:q=j
   ·subst h2
    replace e':=hj▸e'
    have dk:=aH e';clear e';clear e;subst dk
    exact ⟨aj,l0,rj,by show ((W.ls.set q l0).set i l1)[q]?=_;exact aa (List.getElem?_set_ne (Ne.symm h1)) (aa (List.getElem?_set_self hjl) rfl),a0⟩
   ·refine R.qS q o e' fun b l e1 e2 e3=>?_;clear e'
    exact ⟨b,l,e1,by show ((W.ls.set j l0).set i l1)[q]?=_;refine aa (List.getElem?_set_ne (Ne.symm h1)) (aa (List.getElem?_set_ne (Ne.symm h2)) ?_);exact e2,e3.mono le⟩
theorem qM(F:Fr h₀ L h m)(N:News h₀ L h (W.news fz))(hn:((W.news fz).map (·.1)).Nodup)(n1:W.bg.length=l.length)(n2:W.ls.length=l.length)
  (n3:W.gam.length=nd) (ob:∀(i:Nat) (o:AO),l[i]?=some o->∃a k,W.bg[i]?=some a/\W.ls[i]?=some k/\jD G.prog G.w G.P W a o k) (dat:DatAll G W):Rep G h₀ L fz h m W ⟨[],Mem.of l,nd⟩:=
 ⟨F,N,hn,Mem.of_ok l,by refine aa n1 ?_;exact (DV l).symm,by refine aa n2 ?_;exact (DV l).symm,n3,fun i o e=>ob i o (by refine aa (Eq.symm (of_get ..)) ?_;exact e),fun _ _ e=>(zS e),dat⟩
theorem Na(t:G.P.tags=[])(e:G.P.eqs=[])(c:G.P.jO=[])(d:G.P.dg=[])(d':G.P.ds=[])(g:G.P.pT=[])(hI:∀i,G.I i=none)(hd:∀(i:Nat) v,W.gam[i]?=some v->handedIn v=true):DatAll G W:=
 ⟨fun i v _=>(by unfold bN;refine aa t ?_;trivial),fun i j u v b _ _ q=>(by replace q:=e▸q;exact zS q),fun i v x _ q=>(by replace q:=(hI ..)▸q;exact zS q),hd,fun i x u b t _ q=>(by replace q:=c▸q;exact zS q),fun i x r q=>(by replace q:=d▸q;exact zS q),fun i n j q=>(by replace q:=d'▸q;exact zS q),fun c i x b _ h=>by replace h:=g▸h;exact zS h⟩
noncomputable def o6:Nat->Option Int:=fun _=>none
theorem io0(h1:G.P.ops=[])(Vd:G.P.eu=[])(h2:∀i,G.I i=none):dn G:=⟨fun op i k nd r e=>(by replace e:=h1▸e;exact zS e),fun op i k nd r e=>(by replace e:=Vd▸e;exact zS e),fun i x e=>(by replace e:=(h2 ..)▸e;exact zS e),fun i x e=>(by replace e:=(h2 ..)▸e;exact zS e),fun i x e=>(by replace e:=(h2 ..)▸e;exact zS e),fun i x e=>by replace e:=(h2 ..)▸e;exact zS e⟩
theorem pF(h:jD prog w P W aj (.inst C [(c, .o i)]) l)(hr:W.bg[i]?=some a)(UQ:W₁.bg[abu]?=some a)(hc:BI.cls=P.cls):
  jD prog w BI W₁ aj (.inst C [(c, .o abu)]) l:=by
 refine ID h fun dx es n ci e f g k=>?_;clear h
 refine ⟨dx,es,n,ci,e,?_,by refine aa hc ?_;exact g,fun x v q=>?_⟩
 ·cases f with
  |cons hk hv ht=>
   cases ht
   refine ay hv fun b hb e2=>?_;clear hv
   replace hb:=hr▸hb;have eD:=aH hb;clear hb;subst eD
   exact .cons hk ⟨a,UQ,e2⟩ .nil
 ·replace q:=(aI ..)▸q
  split at q
  ·rename_i hx;exact k x (.o i) (by exact aa (aI ..) (aa (if_pos hx ..) rfl))
  ·exact zS q
structure NK(G:Gx)(h₀:Heap)(L:Addr)(fz:List (Addr×Obj))(h:Heap)(W:Wd)(σ:St)(j i:Nat)(tb:List (Nat×bk×Option Nat))(aj a:Addr)(ob:Obj)(kvs:List (Str×Value))(Lj r O:List (Addr×Obj)):Prop where
 ne:j≠i
 hj:σ.mem.get j=some (.inst 190 [(vV, .o i)])
 hi:σ.mem.get i=some (.db tb)
 rj:W.bg[j]?=some aj
 ri:W.bg[i]?=some a
 lj:W.ls[j]?=some Lj
 li:W.ls[i]?=some ((a,ob)::r)
 a0:jD G.prog G.w G.P W aj (.inst 190 [(vV, .o i)]) Lj
 hd:ob.IsDictOf (strKind G.prog G.w) kvs
 lo:(a==sysModules)=false
 le:tb.length<=100
 ks:∀s,valueAt kvs s≠none->(ah (code s) tb).isSome=true
 nd:(tb.map (·.1)).Nodup
 db:mY G.prog G.w W kvs tb r
 pm0:(W.news fz).Perm (Lj++(((a,ob)::r)++O))
 pm:∀l k,(((W.upd j l).upd i k).news fz).Perm (l++(k++O))
theorem tc(R:Rep G h₀ L fz h m W σ)(e:Bv σ.mem x=some (i,tb))(hx:VR W x v):
  ∃j aj a ob kvs Lj r O,v= .ref aj/\NK G h₀ L fz h W σ j i tb aj a ob kvs Lj r O:=by
 refine jC (Ic R e hx) fun j b7 ne hj hi=>?_;clear e;subst b7
 refine R.qS j _ hj fun aj Lj rj lj a0=>?_
 refine R.qS i _ hi fun a Li ri li qa=>BJ qa fun ob kvs r qe hd lo le ks nd db=>?_;clear qa;subst qe
 refine ay (Cf (fz:=fz) ne lj li) fun O p0 p1=>?_
 refine VR.oM hx fun b rb=>?_;clear hx
 replace rb:=rj▸rb;have fG:=aH rb;clear rb;subst fG
 exact ⟨j,_,a,ob,kvs,Lj,r,O,rfl,ne,hj,hi,rj,ri,lj,li,a0,hd,lo,le,ks,nd,db,p0,p1⟩
section
variable {ob:Obj}
noncomputable def xA(s:Str):List AO:=[.inst 190 [(vV, .o 1)], .pmap [(code s,none)] 0]
noncomputable def kf(s k:Str)(ov:Option AV):List AO:=[.inst 190 [(vV, .o 1)], .pmap [(code s,some (.o 2))] 0, .pmap [(code k,ov)] 1]
noncomputable def wA(aj a:Addr)(ob:Obj)(kvs:List (Str×Value))(Lj:List (Addr×Obj))(s:Str)(g:List Value):Wd:=⟨[aj,a],[Lj,[(a,ob)]],[],g,[kvs.filter (jE [(code s,none)])]⟩
noncomputable def wP(aj a e:Addr)(ob oe:Obj)(kvs fc:List (Str×Value))(Lj:List (Addr×Obj))(s k:Str)(g:List Value):Wd:=
 ⟨[aj,a,e],[Lj,[(a,ob)],[(e,oe)]],[],g,[kvs.filter (jE [(code s,none)]),fc.filter (jE [(code k,none)])]⟩
theorem sR(R:Rep G h₀ L fz h m W σ)(V:NK G h₀ L fz h W σ j i tb aj a ob kvs Lj r O)(hs:valueAt kvs s=none)(hg:∀v∈g,handedIn v=true)(hc:aR.cls=G.P.cls):
  Rep (G.at aR o6) h₀ L (r++O) h m (wA aj a ob kvs Lj s g) ⟨[],Mem.of (xA s),g.length⟩:=by
 have p:((wA aj a ob kvs Lj s g).news (r++O)).Perm (W.news fz):=by
  refine List.Perm.trans ?_ V.pm0.symm
  show (([Lj,[(a,ob)]]:List (List (Addr×Obj))).flatten++([]++(r++O))).Perm _
  simp
 refine qM R.fr (fun q hq=>R.nw q (p.mem_iff.mp hq)) ((p.map (·.1)).nodup_iff.mpr R.nd) rfl rfl rfl (fun q o e=>?_) (Na rfl rfl rfl rfl rfl rfl (fun _=>rfl) fun q v e=>hg v (kW e))
 match q,e with
 | 0,e=>have gF:=aH e;clear e;clear e;subst gF;exact ⟨aj,Lj,rfl,rfl,pF (W₁:=wA aj a ob kvs Lj s g) V.a0 V.ri rfl hc⟩
 | 1,e=>
  have gg:=aH e;clear e;clear e;subst gg
  refine ⟨a,_,rfl,rfl,ob,kvs,rfl,V.hd,V.lo,⟨_,rfl,rfl,?_⟩,fun x ov q=>?_⟩
  ·exact Nat.le_trans (List.length_filter_le _ _) (Nat.le_trans (yP (gj V.hd) V.ks) (Nat.le_trans V.le (by decide)))
  ·replace q:=(aI ..)▸q;replace q:=(ib ..)▸q
   split at q
   ·rename_i hx;have gR:=aH q;clear q;subst gR;refine aa (Eq.symm (code_inj hx)) (aa hs ?_);trivial
   ·exact zS q
 |q+2,e=>exact zS e
theorem ju(R:Rep G h₀ L fz h m W σ)(V:NK G h₀ L fz h W σ j i tb aj a ob kvs Lj (r1++([(e,oe)]++r2)) O)(hs:valueAt kvs s=some (.ref e))
  (he:oe.IsDictOf (strKind G.prog G.w) fc) (le:(e==sysModules)=false) (k4:∀p∈fc,(gI (code p.1)).isSome=true) (hg:∀v∈g,handedIn v=true) (hv:fJ (VR (wP aj a e ob oe kvs fc Lj s k g)) ov (valueAt fc k)) (hc:aR.cls=G.P.cls):
  Rep (G.at aR o6) h₀ L (r1++(r2++O)) h m (wP aj a e ob oe kvs fc Lj s k g) ⟨[],Mem.of (kf s k ov),g.length⟩:=by
 have p:((wP aj a e ob oe kvs fc Lj s k g).news (r1++(r2++O))).Perm (W.news fz):=by
  refine List.Perm.trans ?_ V.pm0.symm
  show (([Lj,[(a,ob)],[(e,oe)]]:List (List (Addr×Obj))).flatten++([]++(r1++(r2++O)))).Perm _
  simp only [List.flatten_cons,List.flatten_nil,List.append_nil,List.nil_append,eP,List.cons_append]
  exact List.Perm.append_left _ (List.Perm.cons _ (List.perm_middle.symm))
 refine qM R.fr (fun q hq=>R.nw q (p.mem_iff.mp hq)) ((p.map (·.1)).nodup_iff.mpr R.nd) rfl rfl rfl (fun q o e'=>?_) (Na rfl rfl rfl rfl rfl rfl (fun _=>rfl) fun q v e=>hg v (kW e))
 match q,e' with
 | 0,e'=>have cW:=aH e';clear e';clear e';subst cW;exact ⟨aj,Lj,rfl,rfl,pF (W₁:=wP aj a e ob oe kvs fc Lj s k g) V.a0 V.ri rfl hc⟩
 | 1,e'=>
  have eY:=aH e';clear e';clear e';subst eY
  refine ⟨a,_,rfl,rfl,ob,kvs,rfl,V.hd,V.lo,⟨_,rfl,?_,?_⟩,fun x ov q=>?_⟩
  ·exact List.filter_congr fun p _=>by exact aa lp (aa lp rfl)
  ·exact Nat.le_trans (List.length_filter_le _ _) (Nat.le_trans (yP (gj V.hd) V.ks) (Nat.le_trans V.le (by decide)))
  ·replace q:=(aI ..)▸q;replace q:=(ib ..)▸q
   split at q
   ·rename_i hx;have dQ:=aH q;clear q;subst dQ;refine aa (Eq.symm (code_inj hx)) (aa hs ?_);exact ⟨e,rfl,rfl⟩
   ·exact zS q
 | 2,e'=>
  have cZ:=aH e';clear e';clear e';subst cZ
  refine ⟨e,_,rfl,rfl,oe,fc,rfl,he,le,⟨_,rfl,?_,?_⟩,fun x ov q=>?_⟩
  ·exact List.filter_congr fun p _=>by exact aa lp (aa lp rfl)
  ·exact Nat.le_trans (List.length_filter_le _ _) (Nat.le_trans (EL (gj he) k4) (by decide))
  ·replace q:=(aI ..)▸q;replace q:=(ib ..)▸q
   split at q
   ·rename_i hx;have dq:=aH q;clear q;subst dq;refine aa (Eq.symm (code_inj hx)) ?_;exact hv
   ·exact zS q
 |q+3,e'=>exact zS e'
end
section
variable {G:Gx}{W W':Wd}{ob ml:Obj}
theorem Vo(R:Rep G h₀ L fz h m W σ)(V:NK G h₀ L fz h W σ j i tb aj a ob kvs Lj (r1++(lN++r2)) O)(R':Rep (G.at aR o6) h₀ L (r1++(r2++O)) h' m W' aF)(sub:(l0++((a,ml)::lE)).Sublist W'.ls.flatten)
  (a0:jD G.prog G.w aR W' aj (.inst 190 [(vV, .o 1)]) l0) (ra:W'.bg[1]?=some a) (hc:aR.cls=G.P.cls) (hd:ml.IsDictOf (strKind G.prog G.w) bf) (le:tb'.length<=100) (ks:∀s,valueAt bf s≠none->(ah (code s) tb').isSome=true) (nd:(tb'.map (·.1)).Nodup)
  (db:mY G.prog G.w ((W.upd j l0).upd i ((a,ml)::(r1++(lE++r2)))) bf tb' (r1++(lE++r2))) (F4:mem'.ok) (mn:mem'.n=σ.mem.n) (mg:∀q,mem'.get q=if q=i then some (.db tb') else σ.mem.get q):
  W.le ((W.upd j l0).upd i ((a,ml)::(r1++(lE++r2))))/\Rep G h₀ L fz h' m ((W.upd j l0).upd i ((a,ml)::(r1++(lE++r2)))) ⟨σ.loc,mem',σ.nd⟩:=by
 have sb:((l0++((a,ml)::lE))++(r1++(r2++O))).Sublist (W'.news (r1++(r2++O))):=sub.append (List.sublist_append_right _ _)
 refine Ie R V.ne V.hj V.rj V.ri V.lj V.li V.pm R'.fr (fun q hq=>R'.nw q (sb.subset hq)) ((sb.map (·.1)).nodup R'.nd) ?_ (pF (W₁:=(W.upd j l0).upd i _) a0 ra V.ri hc.symm) ⟨ml,bf,_,rfl,hd,V.lo,le,ks,nd,db⟩ F4 mn mg
 refine aa (eP ..) ?_
 refine List.Perm.append_left _ ?_
 show ((a,ml)::((r1++(lE++r2))++O)).Perm ((a,ml)::(lE++(r1++(r2++O))))
 refine List.Perm.cons _ ?_
 refine aa (eP ..) (aa (eP ..) (aa (Eq.symm (eP ..)) (aa (Eq.symm (eP lE ..)) ?_)))
 exact List.Perm.append_right _ List.perm_append_comm
theorem xa(R':Rep (G.at aR o6) h₀ L fz' h' m W' aF)(r0:W'.bg[0]?=some aj)(r1:W'.bg[1]?=some a)(et:W'.eta[0]?=some (kvs.filter (jE [(code s,none)])))(e0:aF.mem.get 0=some (.inst 190 [(vV, .o 1)]))(e1:aF.mem.get 1=some (.pmap [(code s,ov)] 0)):
  ∃l0 ml bf,W'.ls[0]?=some l0/\W'.ls[1]?=some [(a,ml)]/\jD G.prog G.w aR W' aj (.inst 190 [(vV, .o 1)]) l0/\ml.IsDictOf (strKind G.prog G.w) bf/\(∀y,y≠s->valueAt bf y=valueAt kvs y)/\fJ (VR W') ov (valueAt bf s):=by
 refine R'.qS 0 _ e0 fun b l0 b1 b2 b3=>?_;clear e0
 replace b1:=r0▸b1;have cw:=aH b1;clear b1;subst cw
 refine R'.qS 1 _ e1 fun c l1 c1 c2 qa=>jB qa fun ml bf qe c4 c5 w c8=>eN w fun z c6 c7 _=>?_;clear qa;subst qe
 replace c1:=r1▸c1;have dC:=aH c1;clear c1;clear c5;subst dC
 replace c6:=et▸c6;have dk:=aH c6;clear c6;subst dk
 exact ⟨l0,ml,bf,b2,c2,b3,c4,others c7,c8 s ov (by exact aa (aI ..) (aa (if_pos rfl ..) rfl))⟩
theorem GP(h0:W'.ls[0]?=some l0)(h1:W'.ls[1]?=some [p]):(l0++(p :: [])).Sublist W'.ls.flatten:=by
 match e:W'.ls,h0,h1 with
 |x::y::X,h0,h1=>
  have eD:=aH h0;clear h0;clear h0;subst eD;have fG:=aH h1;clear h1;clear e;subst fG
  refine aa List.flatten_cons (aa List.flatten_cons ?_)
  exact List.Sublist.append_left (List.sublist_append_left _ _) _
 | [],h0,_=>exact zS h0
 | [_],_,h1=>exact zS h1
theorem GO(h0:W'.ls[0]?=some l0)(h1:W'.ls[1]?=some [p])(h2:W'.ls[2]?=some [q]):(l0++(p :: [q])).Sublist W'.ls.flatten:=by
 match e:W'.ls,h0,h1,h2 with
 |x::y::z::X,h0,h1,h2=>
  have gF:=aH h0;clear h0;clear h0;subst gF;have gg:=aH h1;clear h1;subst gg;have gR:=aH h2;clear h2;clear e;subst gR
  refine aa List.flatten_cons (aa List.flatten_cons (aa List.flatten_cons ?_))
  exact List.Sublist.append_left (List.Sublist.append_left (List.sublist_append_left [q] _) [p]) _
 | [],h0,_,_=>exact zS h0
 | [_],_,h1,_=>exact zS h1
 | [_,_],_,_,h2=>exact zS h2
theorem hY:∀{l:List (Nat×α)},ah x l=some v->b8 x v l=l
 | [],h=>zS h
 |(a,b)::l,h=>by
  replace h:=(aI ..)▸h
  refine aa (eZ ..) ?_
  split
  ·replace h:=(if_pos ‹_›)▸h;have cW:=aH h;clear h;subst cW;rfl
  ·replace h:=(if_neg ‹_›)▸h;exact aa (hY h) rfl
theorem Mt{l:List (Nat×α)}(h:ah x l=none):x ∉ l.map (·.1):=fun hm=>by
 refine ay (nS hm) fun p hp b7=>?_;subst b7
 have:∀{l:List (Nat×α)},p∈l->ah p.1 l≠none:=by
  intro l
  induction l with
  |nil=>intro h;exact zM h
  |cons q r ih=>
   intro h e
   obtain ⟨a,b⟩:=q
   replace e:=(aI ..)▸e
   split at e
   ·exact zN e
   ·rename_i ha
    rcases gn h with rfl | h
    ·exact ha rfl
    ·exact ih h e
 exact this hp h
end
noncomputable def qK:List String:=["result:", "_values_:", "checker:", "deps:"]
noncomputable def qN:List (String×String):=wt.flatMap fun s=>qK.map fun k=>(s,k)
theorem C9:(qN.map fun p=>cH aR 5 (.k 166) [.o 0,sA p.1,sA p.2] [] ⟨[],Mem.of (xA (S p.1)),0⟩)=qN.map fun p=>some (.none,⟨[],Mem.of (xA (S p.1)),0⟩):=by kernel_rfl
theorem C8:(qN.map fun p=>cH aR 5 (.k 166) [.o 0,sA p.1,sA p.2] [] ⟨[],Mem.of (kf (S p.1) (S p.2) none),0⟩)=qN.map fun p=>some (.none,⟨[],Mem.of (kf (S p.1) (S p.2) none),0⟩):=by kernel_rfl
theorem C7:(qN.map fun p=>cH aR 5 (.k 166) [.o 0,sA p.1,sA p.2] [] ⟨[],Mem.of (kf (S p.1) (S p.2) (some (.d 0))),1⟩)=qN.map fun p=>some (.d 0,⟨[],Mem.of (kf (S p.1) (S p.2) (some (.d 0))),1⟩):=by kernel_rfl
theorem C1:(qN.map fun p=>cH aR 5 (.k 159) [.o 0,sA p.1,sA p.2, .d 0] [] ⟨[],Mem.of (xA (S p.1)),1⟩)=qN.map fun p=>some (.none,⟨[],Mem.of [.inst 190 [(vV, .o 1)], .pmap [(code (S p.1),some (.o 2))] 0, .dict [(code (S p.2),S p.2, .d 0)]],1⟩):=by kernel_rfl
theorem C0:(qN.map fun p=>cH aR 5 (.k 159) [.o 0,sA p.1,sA p.2, .d 0] [] ⟨[],Mem.of (kf (S p.1) (S p.2) none),1⟩)=qN.map fun p=>some (.none,⟨[],Mem.of (kf (S p.1) (S p.2) (some (.d 0))),1⟩):=by kernel_rfl
theorem CZ:(qN.map fun p=>cH aR 5 (.k 159) [.o 0,sA p.1,sA p.2, .d 0] [] ⟨[],Mem.of (kf (S p.1) (S p.2) (some (.d 1))),2⟩)=qN.map fun p=>some (.none,⟨[],Mem.of (kf (S p.1) (S p.2) (some (.d 0))),2⟩):=by kernel_rfl
theorem Hf:(wt.map fun s=>cH aR 5 (.k 173) [.o 0,sA s] [] ⟨[],Mem.of (xA (S s)),0⟩)=wt.map fun s=>some (.bool false,⟨[],Mem.of (xA (S s)),0⟩):=by kernel_rfl
theorem He:(wt.map fun s=>cH aR 5 (.k 173) [.o 0,sA s] [] ⟨[],Mem.of (kf (S s) (S "result:") none),0⟩)=wt.map fun s=>some (.bool true,⟨[],Mem.of (kf (S s) (S "result:") none),0⟩):=by kernel_rfl
theorem Hd:(wt.map fun s=>cH aR 5 (.k 173) [.o 0,sA s] [] ⟨[],Mem.of (kf (S s) (S "result:") (some (.d 0))),1⟩)=wt.map fun s=>some (.bool true,⟨[],Mem.of (kf (S s) (S "result:") (some (.d 0))),1⟩):=by kernel_rfl
theorem G9:(wt.map fun s=>cH aR 5 (.k 180) [.o 0,sA s] [] ⟨[],Mem.of (xA (S s)),0⟩)=wt.map fun s=>some (.none,⟨[],Mem.of (xA (S s)),0⟩):=by kernel_rfl
theorem G8:(wt.map fun s=>cH aR 5 (.k 180) [.o 0,sA s] [] ⟨[],Mem.of (kf (S s) (S "result:") none),0⟩)=wt.map fun s=>some (.none,⟨[],Mem.of [.inst 190 [(vV, .o 1)], .pmap [(code (S s),none)] 0, .pmap [(code (S "result:"),none)] 1],0⟩):=by kernel_rfl
theorem G7:(wt.map fun s=>cH aR 5 (.k 180) [.o 0,sA s] [] ⟨[],Mem.of (kf (S s) (S "result:") (some (.d 0))),1⟩)=wt.map fun s=>some (.none,⟨[],Mem.of [.inst 190 [(vV, .o 1)], .pmap [(code (S s),none)] 0, .pmap [(code (S "result:"),some (.d 0))] 1],1⟩):=by kernel_rfl
theorem nV(h:isQ s=true):∃n∈wt,s=S n:=by
 refine ay (nS ((dF _ _).mp h)) fun n hn e=>?_
 exact ⟨n,hn,(code_inj e).symm⟩
theorem lJ(h:gI (code k)=some j):j<4/\∃n∈qK,k=S n:=by
 unfold gI at h
 replace h:=(eT ..)▸h;replace h:=(eT ..)▸h;replace h:=(eT ..)▸h;replace h:=(eT ..)▸h
 by_cases h4:code k=code (S "result:")
 ·replace h:=(decide_eq_true h4)▸h;have cW:=aH h;clear h;subst cW;exact ⟨by decide, "result:",by simp [qK],code_inj h4⟩
 by_cases h3:code k=code (S "_values_:")
 ·replace h:=(decide_eq_false h4)▸h;replace h:=(decide_eq_true h3)▸h;have eY:=aH h;clear h;subst eY;exact ⟨by decide, "_values_:",by simp [qK],code_inj h3⟩
 by_cases h2:code k=code (S "checker:")
 ·replace h:=(decide_eq_false h4)▸h;replace h:=(decide_eq_false h3)▸h;replace h:=(decide_eq_true h2)▸h;have dQ:=aH h;clear h;subst dQ;exact ⟨by decide, "checker:",by simp [qK],code_inj h2⟩
 by_cases h1:code k=code (S "deps:")
 ·replace h:=(decide_eq_false h4)▸h;replace h:=(decide_eq_false h3)▸h;replace h:=(decide_eq_false h2)▸h;replace h:=(decide_eq_true h1)▸h;have cZ:=aH h;clear h;subst cZ;exact ⟨by decide, "deps:",by simp [qK],code_inj h1⟩
 replace h:=(decide_eq_false h4)▸h;replace h:=(decide_eq_false h3)▸h;replace h:=(decide_eq_false h2)▸h;replace h:=(decide_eq_false h1)▸h
 cases h
theorem Dx(hs:s∈wt)(hk:k∈qK):(s,k)∈qN:=List.mem_flatMap.mpr ⟨s,hs,List.mem_map.mpr ⟨k,hk,rfl⟩⟩
theorem Xh(h:(Bool.rec none o b:Option α)=some a):b=true/\o=some a:=by induction b with | false=>exact zS h | true=>exact ⟨rfl,h⟩
theorem NK.cut{ob:Obj}(V:NK G h₀ L fz h W σ j i tb aj a ob kvs Lj r O)(s:Str):
  ∃r1 l r2,r=r1++(l++r2)/\((valueAt kvs s=none/\l=[])\/∃e oe,valueAt kvs s=some (.ref e)/\l=[(e,oe)])/\
   ((ah (code s) tb=none/\valueAt kvs s=none/\∀{W':Wd} {bf:List (Str×Value)},W.le W'->(∀y,y≠s->valueAt bf y=valueAt kvs y)->mY G.prog G.w W' bf tb (r1++([]++r2)))\/
    ∃de,ah (code s) tb=some de/\il G.prog G.w W de (valueAt kvs s) l/\∀{W':Wd} {bf:List (Str×Value)} {de':bk×Option Nat} {l':List (Addr×Obj)},W.le W'->(∀y,y≠s->valueAt bf y=valueAt kvs y)->il G.prog G.w W' de' (valueAt bf s) l'->mY G.prog G.w W' bf (b8 (code s) de' tb) (r1++(l'++r2))):=by
 generalize e:ah (code s) tb=bZ;induction bZ with
 |none=>
  have hv:valueAt kvs s=none:=by
   generalize q:valueAt kvs s=ir;induction ir with
   |none=>rfl
   |some u=>have:=V.ks s (by refine aa q ?_;simp);replace this:=e▸this;cases this
  exact ⟨r,[],[],by simp, .inl ⟨hv,rfl⟩, .inl ⟨rfl,hv,fun le q=>by rw [List.append_nil,List.append_nil];exact V.db.rest (Mt e) le q⟩⟩
 |some de=>
  refine qB (V.db.split e V.nd) fun r1 l r2 b7 g1 g2=>?_;clear V;subst b7
  refine ⟨r1,l,r2,rfl,?_, .inr ⟨de,rfl,g1,fun le q g=>g2 le q g⟩⟩
  generalize hv:valueAt kvs s=ny;induction ny with
  |none=>replace g1:=hv▸g1;exact .inl ⟨rfl,g1.1⟩
  |some u=>replace g1:=hv▸g1;refine qB g1 fun e' oe fc cw h2 _=>?_;clear g1;clear hv;subst cw;exact .inr ⟨e',oe,rfl,h2⟩
theorem qX(s:Str)(v:AV)(y:Nat):∀l:bk,bP y (jV s v l)=if code s=y then some v else bP y l
 | []=>by exact aa (oQ ..) (aa (df ..) (aa (mJ ..) rfl))
 |(a,b,u)::l=>by
  refine aa (mE ..) ?_
  by_cases h:a=code s
  ·refine aa (if_pos h ..) (aa (df ..) (aa (df ..) (aa (h ..) ?_)))
   split<;>rfl
  ·refine aa (if_neg h ..) (aa (df ..) (aa (df ..) (aa (qX s v y l ..) ?_)))
   by_cases h2:a=y
   ·exact aa (if_pos h2) (aa (if_pos h2) (aa (if_neg (fun e=>h (h2.trans e.symm))) rfl))
   ·exact aa (if_neg h2) (aa (if_neg h2) rfl)
theorem Av(s:Str)(v:AV)(l:bk):jV s v l≠[]:=by
 induction l using iM with
 |nil=>simp [oQ]
 |cons p l=>obtain ⟨a,b,u⟩:=p;refine aa (mE ..) ?_;split<;>simp
section
variable {W W':Wd}
theorem AK(h:∀y,valueAt j4 y=valueAt fc y)(k4:∀p∈fc,(gI (code p.1)).isSome=true):∀p∈j4,(gI (code p.1)).isSome=true:=fun p hp=>by
 have:=jd hp
 replace this:=(h ..)▸this
 unfold valueAt at this
 generalize q:fc.find? (fun kv=>decide (kv.1=p.1))=rS;induction rS with
 |none=>replace this:=q▸this;exact absurd rfl this
 |some r=>
  have h1:=List.find?_some q
  simp only [decide_eq_true_eq] at h1
  refine aa (Eq.symm h1) ?_;exact k4 r (List.mem_of_find?_eq_some q)
structure i6(prog:Program)(w:PySem.World)(W:Wd)(de:bk×Option Nat)(fc:List (Str×Value)):Prop where
 k4:∀p∈fc,(gI (code p.1)).isSome=true
 here:de.1=[]->∃b u,de.2=some b/\W.gam[b+2]?=some u/\u≠ .none
 each:∀k j,gI (code k)=some j->match bP (code k) de.1 with
  |some a=>∃u,valueAt fc k=some u/\VR W a u
  |none=>match de.2 with
   |some b=>W.gam[b+j]?=some ((valueAt fc k).getD .none)
   |none=>valueAt fc k=none
theorem i6.of(h:il prog w W de (some (.ref e)) [(e,oe)]):∃fc,oe.IsDictOf (strKind prog w) fc/\(e==sysModules)=false/\i6 prog w W de fc:=by
 refine eL h fun e' ob kvs h1 h2 h3 h4 dC h7=>?_;clear h;obtain ⟨h5,h6⟩:=dC
 cases h1;cases h2
 exact ⟨kvs,h3,h4,h5,h6,h7⟩
theorem i6.to(h:i6 prog w W de fc)(hd:oe.IsDictOf (strKind prog w) fc)(lo:(e==sysModules)=false):il prog w W de (some (.ref e)) [(e,oe)]:=⟨e,oe,fc,rfl,rfl,hd,lo,⟨h.k4,h.here⟩,h.each⟩
theorem i6.same(h:i6 prog w W de fc)(le:W.le W')(q:∀y,valueAt j4 y=valueAt fc y):i6 prog w W' de j4:=by
 refine ⟨AK q h.k4,fun z=>let ⟨b,u,x,y,n⟩:=h.here z;⟨b,u,x,ai le.gam y,n⟩,fun k j hk=>?_⟩
 have:=h.each k j hk
 refine aa (q ..) ?_
 split at this
 ·exact let ⟨u,x,y⟩:=this;⟨u,x,y.mono le⟩
 ·split at this
  ·exact ai le.gam this
  ·exact this
theorem i6.put(h:i6 prog w W de fc)(le:W.le W')(hk:(gI (code k)).isSome=true)(hu:valueAt j4 k=some u)(hv:VR W' v u)(ho:∀y,y≠k->valueAt j4 y=valueAt fc y):i6 prog w W' (jV k v de.1,de.2) j4:=by
 refine ⟨fun p hp=>?_,fun z=>absurd z (Av _ _ _),fun y j hy=>?_⟩
 ·by_cases q:p.1=k
  ·refine aa q ?_;exact hk
  ·have:=jd hp
   replace this:=(ho _ q)▸this
   unfold valueAt at this
   generalize q:fc.find? (fun kv=>decide (kv.1=p.1))=tR;induction tR with
   |none=>replace this:=q▸this;exact absurd rfl this
   |some r=>
    have h1:=List.find?_some q
    simp only [decide_eq_true_eq] at h1
    refine aa (Eq.symm h1) ?_;exact h.k4 r (List.mem_of_find?_eq_some q)
 ·show match bP (code y) (jV k v de.1) with | some a=>_ | none=>_
  refine aa (qX ..) ?_
  by_cases q:y=k
  ·subst q;refine aa (if_pos rfl ..) ?_;exact ⟨u,hu,hv⟩
  ·refine aa (if_neg (fun z=>q (code_inj z).symm)) (aa (ho y q ..) ?_)
   have:=h.each y j hy
   split at this
   ·exact let ⟨u,x,y⟩:=this;⟨u,x,y.mono le⟩
   ·dsimp only
    split at this
    ·exact ai le.gam this
    ·exact this
theorem i6.new(hb:∀b,b?=some b->∀j,j<4->W.gam[b+j]?=some .none)(le:W.le W')(hk:(gI (code k)).isSome=true)(hv:VR W' v u):i6 prog w W' ([(code k,k,v)],b?) [(k,u)]:=by
 refine ⟨fun p hp=>by refine aa (dU hp) ?_;exact hk,fun z=>(zK z),fun y j hy=>?_⟩
 show match bP (code y) [(code k,k,v)] with | some a=>_ | none=>_
 refine aa (df ..) (aa (mJ ..) (aa (cA ..) ?_))
 by_cases q:k=y
 ·subst q;refine aa (if_pos rfl ..) (aa (if_pos rfl ..) ?_);exact ⟨u,rfl,hv⟩
 ·refine aa (if_neg (fun z=>q (code_inj z))) (aa (if_neg q ..) ?_)
  dsimp only
  generalize hz:b?=Gn;induction Gn with
  |none=>rfl
  |some b=>exact ai le.gam (hb b hz j (lJ hy).1)
end
theorem LN{G:Gx}(R':Rep (G.at aR o6) h₀ L fz' h' m W' aF)(r2:W'.bg[2]?=some e)(et:W'.eta[1]?=some (fc.filter (jE [(code k,ov)])))(e2:aF.mem.get 2=some (.pmap [(code k,WS)] 1)):
  ∃I0 j4,W'.ls[2]?=some [(e,I0)]/\I0.IsDictOf (strKind G.prog G.w) j4/\(e==sysModules)=false/\(∀y,y≠k->valueAt j4 y=valueAt fc y)/\fJ (VR W') WS (valueAt j4 k):=by
 refine R'.qS 2 _ e2 fun c l1 c1 c2 qa=>jB qa fun ml bf qe c4 c5 w c8=>eN w fun z c6 c7 _=>?_;clear qa;subst qe
 replace c1:=r2▸c1;have dq:=aH c1;clear c1;subst dq
 replace c6:=et▸c6;have dp:=aH c6;clear c6;subst dp
 exact ⟨ml,bf,c2,c4,c5,others c7,c8 k WS (by exact aa (aI ..) (aa (if_pos rfl ..) rfl))⟩
theorem kO{ob ml:Obj}
  (R:Rep G h₀ L fz h m W σ) (V:NK G h₀ L fz h W σ j i tb aj a ob kvs Lj (r1++(l++r2)) O) (dI:aR.cls=G.P.cls) (e8:ah (code s) tb=some de)
  (g2:∀{W':Wd} {bf:List (Str×Value)} {de':bk×Option Nat} {l':List (Addr×Obj)},W.le W'->(∀y,y≠s->valueAt bf y=valueAt kvs y)->il G.prog G.w W' de' (valueAt bf s) l'->mY G.prog G.w W' bf (b8 (code s) de' tb) (r1++(l'++r2)))
  (R':Rep (G.at aR o6) h₀ L (r1++(r2++O)) h' m W' aF) (sb:(l0++((a,ml)::lE)).Sublist W'.ls.flatten) (a0:jD G.prog G.w aR W' aj (.inst 190 [(vV, .o 1)]) l0) (ra:W'.bg[1]?=some a) (hd:ml.IsDictOf (strKind G.prog G.w) bf) (ho:∀y,y≠s->valueAt bf y=valueAt kvs y)
  (hE:∀jR,W.le jR->il G.prog G.w jR de' (valueAt bf s) lE) (F4:mem'.ok) (mn:mem'.n=σ.mem.n) (mg:∀q,mem'.get q=if q=i then some (.db (b8 (code s) de' tb)) else σ.mem.get q):
  ∃jR,W.le jR/\jR.gam=W.gam/\jR.bg=W.bg/\Rep G h₀ L fz h' m jR ⟨σ.loc,mem',σ.nd⟩:=by
 have WY:W.le ((W.upd j l0).upd i ((a,ml)::(r1++(lE++r2)))):=(W.aP j l0).trans ((W.upd j l0).aP i _)
 have ks':∀y,valueAt bf y≠none->(ah (code y) (b8 (code s) de' tb)).isSome=true:=fun y hy=>by
  refine aa (cU ..) ?_
  split
  ·rfl
  ·rename_i q;exact V.ks y (by refine aa (Eq.symm (ho y (fun z=>q (by rw [z])))) ?_;exact hy)
 have kk:(b8 (code s) de' tb).map (·.1)=tb.map (·.1):=qO (by refine aa e8 ?_;rfl)
 refine aM (Vo (lE:=lE) (tb':=b8 (code s) de' tb) (mem':=mem') R V R' sb a0 ra dI hd (by have:=congrArg List.length kk;replace this:=(List.length_map ..)▸this;replace this:=(List.length_map ..)▸this;refine aa this ?_;exact V.le) ks' (by refine aa kk ?_;exact V.nd) (g2 WY ho (hE _ WY)) F4 mn mg) fun le R2=>?_
 exact ⟨_,le,rfl,rfl,R2⟩
section
theorem BV(tG:eb G):j6 (G.at aR o6) 0:=(tG.at rfl rfl rfl).ga (z7 fun _ _ _ _=>rfl)
theorem BQ(G:Gx):dn (G.at aR o6):=io0 rfl rfl fun _=>rfl
theorem MP(tG:eb G)(ok:T.Ok G n b W)(hn:5<=n)(R:T.Rep G s.heap m W σ)(hp:bE W pos us)(e:yr σ.mem σ.nd pos=some z)(P:gV G T W m ⟨σ.loc,z.2.1,z.2.2⟩ (fun W u=>VR W z.1 u) Q s):
  wpAny (model G.prog G.w) T.A (call (.ref 166) us []) Q E s:=by
 have dI:aR.cls=G.P.cls:=tG.cls.symm
 unfold yr at e
 split at e
 ·rename_i x sn k
  refine aM (Xh e) fun hq e1=>?_
  refine ab e1 fun dk e2 e3=>?_;clear e1;obtain ⟨i,tb⟩:=dk
  refine ab e3 fun jj e4 e5=>?_;clear e3
  refine ab e5 fun v e6 e7=>?_;clear e5
  have fQ:=aH e7;clear e7;subst fQ
  obtain ⟨hj4,kn,W4,rfl⟩:=lJ e4
  refine ay (nV hq) fun nm ja eD=>?_;clear hq;subst eD
  refine hp.Cp fun v0 v1 v2 p0 p1 p2=>?_;clear hp
  refine p1.eB fun t1=>?_;clear p1
  refine p2.eB fun t2=>?_;clear p2
  refine IC (tc R e2 p0) fun j aj a ob kvs Lj r O fG V=>?_;clear p0;subst fG
  have qq:=Dx ja W4
  refine qB (V.cut (S nm)) fun r1 l r2 gF hl vk=>?_;subst gF
  have R0:=R
  rcases hl with ⟨hz,rfl⟩ | ⟨ea,oe,hz,rfl⟩
  ·have ak:=sR R V hz (g:=[]) (fun _ h=>zM h) dI
   rw [List.nil_append,eP] at ak
   have er:cH aR 5 (.k 166) [.o 0,sA nm,sA kn] [] ⟨[],Mem.of (xA (S nm)),0⟩=some (.none,⟨[],Mem.of (xA (S nm)),0⟩):=aw C9 (nm,kn) qq
   refine inner (BV tG) (BQ G) ok hn ak (f:= .k 166) (pos:=[.o 0,sA nm,sA kn]) rfl ⟨⟨aj,rfl,rfl⟩,⟨t1,rfl⟩,⟨t2,rfl⟩,trivial⟩ er fun W' h' tk u le R' hu=>?_
   have sS:u= .none:=hu
   subst sS
   refine eL (xa R' (ai le.bg rfl) (ai le.bg rfl) (by rw [le.eta];rfl) (of_get _ _) (of_get _ _)) fun l0 ml bf g0 g1 a0 hd ho hv=>?_
   have xD:valueAt bf (S nm)=none:=hv.none
   rcases vk with ⟨e8,_,g⟩ | ⟨de,e8,g3,g4⟩
   ·have e9:vR tb (code (S nm)) (code (S kn))=some .none:=by unfold vR;rw [e8]
    rw [e9] at e6;have eX:=aH e6;clear e6;clear e;subst eX
    have WY:W.le ((W.upd j l0).upd i ((a,ml)::(r1++([]++r2)))):=(W.aP j l0).trans ((W.upd j l0).aP i _)
    have ks':∀y,valueAt bf y≠none->(ah (code y) tb).isSome=true:=fun y hy=>by
     by_cases q:y=S nm
     ·rw [q] at hy;exact absurd xD hy
     ·exact V.ks y (by rw [<-ho y q];exact hy)
    refine aM (Vo (lE:=[]) (tb':=tb) (mem':=σ.mem) R V R' (GP g0 g1) a0 (ai le.bg rfl) dI hd V.le ks' V.nd (g WY ho) R.mem rfl (fun q=>by split;(· subst_vars;exact V.hi);rfl)) fun wx R2=>?_
    exact P _ h' tk _ wx R2 rfl
   ·have q3:=g3
    replace q3:=hz▸q3
    refine fK q3 fun _ q4 q5=>?_;clear q3
    refine jC (kO (de':=de) (lE:=[]) (mem':=σ.mem) R V dI e8 g4 R' (GP g0 g1) a0 (ai le.bg rfl) hd ho (fun jR lF=>by refine aa xD ?_;replace g3:=hz▸g3;exact g3.mono lF) R.mem rfl (fun q=>by refine aa (hY e8) ?_;split;(· subst_vars;exact V.hi);rfl)) fun W2 wx eg er R2=>?_
    refine P _ h' tk _ wx R2 ?_
    have e9:(match bP (code (S kn)) de.1 with | some v=>some v | none=>match de.2 with | none=>some AV.none | some b=>Mine.ob (gI (code (S kn))) fun j=>some (.d (b+j)))=some v:=by unfold vR at e6;replace e6:=e8▸e6;exact e6
    replace e9:=(q4 ..)▸e9;replace e9:=(mJ ..)▸e9
    dsimp only at e9
    generalize hb:de.2=Ov;induction Ov with
    |none=>replace e9:=hb▸e9;have fO:=aH e9;clear e9;clear P e6 e;subst fO;rfl
    |some b=>replace e9:=hb▸e9;replace e9:=e4▸e9;have eW:=aH e9;clear e9;clear P e6 e;subst eW;show W2.gam[b+jj]?=_;refine aa eg ?_;exact q5 b hb jj hj4
  ·obtain ⟨de,e8,g3,g4⟩:∃de,ah (code (S nm)) tb=some de/\il G.prog G.w W de (valueAt kvs (S nm)) [(ea,oe)]/\_:=by
    rcases vk with ⟨_,UN,_⟩ | h
    ·replace UN:=hz▸UN;exact zN UN
    ·exact h
   have q3:=g3
   replace q3:=hz▸q3
   refine eN (i6.of q3) fun fc k1 k2 k3=>?_
   have e9:(match bP (code (S kn)) de.1 with | some v=>some v | none=>match de.2 with | none=>some AV.none | some b=>Mine.ob (gI (code (S kn))) fun j=>some (.d (b+j)))=some v:=by unfold vR at e6;replace e6:=e8▸e6;exact e6
   have val:VR W v ((valueAt fc (S kn)).getD .none):=by
    have:=k3.each _ _ e4
    generalize hk:bP (code (S kn)) de.1=Ou;induction Ou with
    |some y=>replace this:=hk▸this;replace e9:=hk▸e9;have gh:=aH e9;clear e9;clear P e6 e;subst gh;refine ay this fun u x y=>?_;clear this;refine aa x ?_;exact y
    |none=>
     replace this:=hk▸this;replace e9:=hk▸e9
     dsimp only at this e9
     generalize hb:de.2=Xl;induction Xl with
     |none=>replace this:=hb▸this;replace e9:=hb▸e9;have jm:=aH e9;clear e9;clear P e6 e;subst jm;dsimp only at this;refine aa this ?_;rfl
     |some b=>replace e9:=hb▸e9;replace e9:=e4▸e9;replace this:=hb▸this;have mD:=aH e9;clear e9;clear P e6 e;subst mD;exact this
   have done:∀{W':Wd} {h':Heap} {tk:Tok} {u:Value} {ov:Option AV} {nd:Nat} {g:List Value},(wP aj a ea ob oe kvs fc Lj (S nm) (S kn) g).le W'->Rep (G.at aR o6) T.h₀ T.L (r1++(r2++O)) h' m W' ⟨[],Mem.of (kf (S nm) (S kn) ov),nd⟩->
     (∀x,fJ (VR W') ov x->x=valueAt fc (S kn))->u=(valueAt fc (S kn)).getD .none->Q u {s with heap:=h',toks:=tk}:=by
    intro W' h' tk u ov nd g le R' hov hu
    refine eL (xa R' (ai le.bg rfl) (ai le.bg rfl) (by refine aa le.eta ?_;rfl) (of_get _ _) (of_get _ _)) fun l0 ml bf g0 g1 a0 hd ho hv=>?_
    refine jB (LN R' (ai le.bg rfl) (by refine aa le.eta ?_;rfl) (of_get _ _)) fun I0 j4 g5 tN _ MD xD=>?_
    have sm:∀y,valueAt j4 y=valueAt fc y:=fun y=>by
     by_cases q:y=S kn
     ·refine aa q ?_;exact hov _ xD
     ·exact MD y q
    have hs:valueAt bf (S nm)=some (.ref ea):=by
     refine hv.someE fun z z1 z2=>?_
     refine ay z2 fun y y1 gg=>?_;clear z2;subst gg
     replace y1:=(ai le.bg (show (wP aj a ea ob oe kvs fc Lj (S nm) (S kn) g).bg[2]?=some ea from rfl))▸y1
     have oO:=aH y1;clear y1;subst oO;exact z1
    refine jC (kO (de':=de) (lE:=[(ea,I0)]) (mem':=σ.mem) R V dI e8 g4 R' (GO g0 g1 g5) a0 (ai le.bg rfl) hd ho (fun jR lF=>by refine aa hs ?_;exact (k3.same lF sm).to tN k2) R.mem rfl (fun q=>by refine aa (hY e8) ?_;split;(· subst_vars;exact V.hi);rfl)) fun W2 wx eg er R2=>?_
    exact P _ h' tk _ wx R2 (by refine aa hu ?_;exact val.mono wx)
   generalize fg:valueAt fc (S kn)=J8;induction J8 with
   |none=>
    have ak:=ju R V hz k1 k2 k3.k4 (k:=S kn) (ov:=none) (g:=[]) (fun _ h=>zM h) (by refine aa fg ?_;trivial) dI
    have er:cH aR 5 (.k 166) [.o 0,sA nm,sA kn] [] ⟨[],Mem.of (kf (S nm) (S kn) none),0⟩=some (.none,⟨[],Mem.of (kf (S nm) (S kn) none),0⟩):=aw C8 (nm,kn) qq
    refine inner (BV tG) (BQ G) ok hn ak (f:= .k 166) (pos:=[.o 0,sA nm,sA kn]) rfl ⟨⟨aj,rfl,rfl⟩,⟨t1,rfl⟩,⟨t2,rfl⟩,trivial⟩ er fun W' h' tk u le R' hu=>?_
    exact done le R' (fun x hx=>by refine aa fg ?_;exact hx.none) (by refine aa fg ?_;exact hu)
   |some y=>
    have hy:handedIn y=true:=by replace val:=fg▸val;exact R.handed val
    have ak:=ju R V hz k1 k2 k3.k4 (k:=S kn) (ov:=some (.d 0)) (g:=[y]) (fun _ h=>by refine aa (dU h) ?_;exact hy) (by refine aa fg ?_;exact (rfl:([y]:List Value)[0]?=some y)) dI
    have er:cH aR 5 (.k 166) [.o 0,sA nm,sA kn] [] ⟨[],Mem.of (kf (S nm) (S kn) (some (.d 0))),1⟩=some (.d 0,⟨[],Mem.of (kf (S nm) (S kn) (some (.d 0))),1⟩):=aw C7 (nm,kn) qq
    refine inner (BV tG) (BQ G) ok hn ak (f:= .k 166) (pos:=[.o 0,sA nm,sA kn]) rfl ⟨⟨aj,rfl,rfl⟩,⟨t1,rfl⟩,⟨t2,rfl⟩,trivial⟩ er fun W' h' tk u le R' hu=>?_
    have g0:W'.gam[0]?=some y:=ai le.gam rfl
    exact done le R' (fun x hx=>by refine hx.someE fun z gR hz=>?_;clear hx;subst gR;refine aa fg ?_;exact hz.symm.trans g0) (by refine aa fg ?_;exact aH (hu.symm.trans g0))
 ·exact zS e
end
section
variable {G:Gx}{T:At}{s:Shared}
theorem se{mm:Mem}(h:mm.get i=some o)(q:Nat):(mm.set i o').get q=if q=i then some o' else mm.get q:=by
 refine aa (Mem.get_set ..) ?_
 split
 ·refine aa h ?_;rfl
 ·rfl
theorem DR.one(h:DR W [(code x,x,a)] kvs):∃v,kvs=[(x,v)]/\VR W a v:=by
 generalize e:[(code x,x,a)]=l at h
 induction h with
 |nil=>exact zK e
 |cons hv hr=>
  refine aM (List.cons.inj e) fun e1 e2=>?_
  simp only [Prod.mk.injEq] at e1
  refine fK e1 fun _ b7 cw=>?_;clear e1;subst b7 cw
  subst e2
  cases hr
  exact ⟨_,rfl,hv⟩
theorem p5{s:Str}(e:ah (code s) tb=some de)
  (h:(ah (code s) tb=none/\valueAt kvs s=none/\∀{W':Wd} {bf:List (Str×Value)},W.le W'->(∀y,y≠s->valueAt bf y=valueAt kvs y)->mY G.prog G.w W' bf tb (r1++([]++r2)))\/
    ∃de,ah (code s) tb=some de/\il G.prog G.w W de (valueAt kvs s) l/\∀{W':Wd} {bf:List (Str×Value)} {de':bk×Option Nat} {l':List (Addr×Obj)},W.le W'->(∀y,y≠s->valueAt bf y=valueAt kvs y)->il G.prog G.w W' de' (valueAt bf s) l'->mY G.prog G.w W' bf (b8 (code s) de' tb) (r1++(l'++r2))):
  il G.prog G.w W de (valueAt kvs s) l/\∀{W':Wd} {bf:List (Str×Value)} {de':bk×Option Nat} {l':List (Addr×Obj)},W.le W'->(∀y,y≠s->valueAt bf y=valueAt kvs y)->il G.prog G.w W' de' (valueAt bf s) l'->mY G.prog G.w W' bf (b8 (code s) de' tb) (r1++(l'++r2)):=by
 rcases h with ⟨e',_⟩ | ⟨de',e',h1,h2⟩
 ·replace e':=e▸e';exact zN e'
 ·replace e':=e▸e';have gh:=aH e';clear e';subst gh;exact ⟨h1,h2⟩
theorem kz(tG:eb G)(ok:T.Ok G n b W)(hn:5<=n)(R:T.Rep G s.heap m W σ)(hp:bE W pos us)(e:yt σ.mem σ.nd pos=some z)(P:gV G T W m ⟨σ.loc,z.2.1,z.2.2⟩ (fun W u=>VR W z.1 u) Q s):
  wpAny (model G.prog G.w) T.A (call (.ref 159) us []) Q E s:=by
 have dI:aR.cls=G.P.cls:=tG.cls.symm
 unfold yt at e
 split at e
 ·rename_i x sn k v
  refine aM (Xh e) fun hq e1=>?_
  refine ab e1 fun dC e2 e3=>?_;clear e1;obtain ⟨i,tb⟩:=dC
  refine ab e3 fun de e8 e4=>?_;clear e3
  refine ab e4 fun jj e5 e6=>?_;clear e4
  have jm:=aH e6;clear e6;subst jm
  obtain ⟨hj4,kn,W4,rfl⟩:=lJ e5
  refine ay (nV hq) fun nm ja dk=>?_;clear hq e;subst dk
  refine hp.Vl fun v0 v1 v2 v3 p0 p1 p2 p3=>?_;clear hp
  refine p1.eB fun t1=>?_;clear p1
  refine p2.eB fun t2=>?_;clear p2
  refine IC (tc R e2 p0) fun j aj a ob kvs Lj r O eD V=>?_;clear p0;subst eD
  have qq:=Dx ja W4
  have h3:handedIn v3=true:=R.handed p3
  have kk:(gI (code (S kn))).isSome=true:=by refine aa e5 ?_;rfl
  refine qB (V.cut (S nm)) fun r1 l r2 fG hl vk=>?_;subst fG
  refine aM (p5 e8 vk) fun g3 g4=>?_
  have F4:(σ.mem.set i (.db (b8 (code (S nm)) (jV (S kn) v de.1,de.2) tb))).ok:=Mem.kz R.mem _ _
  rcases hl with ⟨hz,rfl⟩ | ⟨ea,oe,hz,rfl⟩
  ·have ak:=sR R V hz (g:=[v3]) (fun _ h=>by refine aa (dU h) ?_;exact h3) dI
   rw [List.nil_append,eP] at ak
   have er:cH aR 5 (.k 159) [.o 0,sA nm,sA kn, .d 0] [] ⟨[],Mem.of (xA (S nm)),1⟩=some (.none,⟨[],Mem.of [.inst 190 [(vV, .o 1)], .pmap [(code (S nm),some (.o 2))] 0, .dict [(code (S kn),S kn, .d 0)]],1⟩):=aw C1 (nm,kn) qq
   refine inner (BV tG) (BQ G) ok hn ak (f:= .k 159) (pos:=[.o 0,sA nm,sA kn, .d 0]) rfl ⟨⟨aj,rfl,rfl⟩,⟨t1,rfl⟩,⟨t2,rfl⟩,(rfl:([v3]:List Value)[0]?=some v3),trivial⟩ er fun W' h' tk u le R' hu=>?_
   have sS:u= .none:=hu
   subst sS
   refine eL (xa R' (ai le.bg rfl) (ai le.bg rfl) (by rw [le.eta];rfl) (of_get _ _) (of_get _ _)) fun l0 ml bf g0 g1 a0 hd ho hv=>?_
   refine R'.qS 2 (.dict [(code (S kn),S kn, .d 0)]) (of_get _ _) fun ea l1 c1 c2 qa=>mX qa fun oe fc qe tN k2 dr=>?_;clear qa;subst qe
   have hs:valueAt bf (S nm)=some (.ref ea):=by
    refine hv.someE fun z z1 z2=>?_
    refine ay z2 fun y y1 gF=>?_;clear z2;subst gF
    rw [c1] at y1;have mD:=aH y1;clear y1;subst mD;exact z1
   have hk:fc=[(S kn,v3)]:=by
    refine ay dr.one fun v' gg hv=>?_;clear tN dr;subst gg
    rw [<-aH ((ai le.gam (rfl:([v3]:List Value)[0]?=some v3)).symm.trans hv)]
   subst hk
   have q3:=g3
   rw [hz] at q3
   refine fK q3 fun _ q4 q5=>?_;clear q3
   obtain ⟨W2,wx,eg,er2,R2⟩:=kO (de':=(jV (S kn) v de.1,de.2)) (lE:=[(ea,oe)]) R V dI e8 g4 R' (GO g0 g1 c2) a0 (ai le.bg rfl) hd ho
    (fun jR lF=>by refine aa (hs ..) (aa (q4 ..) (aa (oQ ..) ?_));exact (i6.new q5 lF kk (p3.mono lF)).to tN k2) F4 rfl (se V.hi)
   exact P _ h' tk _ wx R2 rfl
  ·have q3:=g3
   replace q3:=hz▸q3
   refine eN (i6.of q3) fun fc k1 k2 k3=>?_
   have done:∀{W':Wd} {h':Heap} {tk:Tok} {nd:Nat} {g:List Value},g[0]?=some v3->(wP aj a ea ob oe kvs fc Lj (S nm) (S kn) g).le W'->Rep (G.at aR o6) T.h₀ T.L (r1++(r2++O)) h' m W' ⟨[],Mem.of (kf (S nm) (S kn) (some (.d 0))),nd⟩->
     Q .none {s with heap:=h',toks:=tk}:=by
    intro W' h' tk nd g hg le R'
    refine eL (xa R' (ai le.bg rfl) (ai le.bg rfl) (by refine aa le.eta ?_;rfl) (of_get _ _) (of_get _ _)) fun l0 ml bf g0 g1 a0 hd ho hv=>?_
    refine jB (LN R' (ai le.bg rfl) (by refine aa le.eta ?_;rfl) (of_get _ _)) fun I0 j4 g5 tN _ MD xD=>?_
    have hs:valueAt bf (S nm)=some (.ref ea):=by
     refine hv.someE fun z z1 z2=>?_
     refine ay z2 fun y y1 gR=>?_;clear z2;subst gR
     replace y1:=(ai le.bg (show (wP aj a ea ob oe kvs fc Lj (S nm) (S kn) g).bg[2]?=some ea from rfl))▸y1
     have oO:=aH y1;clear y1;subst oO;exact z1
    have hk:valueAt j4 (S kn)=some v3:=by
     refine xD.someE fun z z1 z2=>?_
     exact aa z1 (aa (Eq.symm (aH ((ai le.gam hg).symm.trans z2))) rfl)
    obtain ⟨W2,wx,eg,er,R2⟩:=kO (de':=(jV (S kn) v de.1,de.2)) (lE:=[(ea,I0)]) R V dI e8 g4 R' (GO g0 g1 g5) a0 (ai le.bg rfl) hd ho
     (fun jR lF=>by refine aa hs ?_;exact (k3.put lF kk hk (p3.mono lF) MD).to tN k2) F4 rfl (se V.hi)
    exact P _ h' tk _ wx R2 rfl
   generalize fg:valueAt fc (S kn)=bZ;induction bZ with
   |none=>
    have ak:=ju R V hz k1 k2 k3.k4 (k:=S kn) (ov:=none) (g:=[v3]) (fun _ h=>by refine aa (dU h) ?_;exact h3) (by refine aa fg ?_;trivial) dI
    have er:cH aR 5 (.k 159) [.o 0,sA nm,sA kn, .d 0] [] ⟨[],Mem.of (kf (S nm) (S kn) none),1⟩=some (.none,⟨[],Mem.of (kf (S nm) (S kn) (some (.d 0))),1⟩):=aw C0 (nm,kn) qq
    refine inner (BV tG) (BQ G) ok hn ak (f:= .k 159) (pos:=[.o 0,sA nm,sA kn, .d 0]) rfl ⟨⟨aj,rfl,rfl⟩,⟨t1,rfl⟩,⟨t2,rfl⟩,(rfl:([v3]:List Value)[0]?=some v3),trivial⟩ er fun W' h' tk u le R' hu=>?_
    have sS:u= .none:=hu
    subst sS
    exact done rfl le R'
   |some y=>
    have hy:handedIn y=true:=by
     have:=k3.each _ _ e5
     split at this
     ·refine ay this fun u x hx=>?_;clear this;replace x:=fg▸x;have su:=aH x;clear x;subst su;exact R.handed hx
     ·split at this
      ·replace this:=fg▸this;exact R.dat.hd _ _ this
      ·replace this:=fg▸this;exact zN this
    have ak:=ju R V hz k1 k2 k3.k4 (k:=S kn) (ov:=some (.d 1)) (g:=[v3,y]) (fun _ h=>by rcases gn h with rfl | h;exact h3;refine aa (dU h) ?_;exact hy) (by refine aa fg ?_;exact (rfl:([v3,y]:List Value)[1]?=some y)) dI
    have er:cH aR 5 (.k 159) [.o 0,sA nm,sA kn, .d 0] [] ⟨[],Mem.of (kf (S nm) (S kn) (some (.d 1))),2⟩=some (.none,⟨[],Mem.of (kf (S nm) (S kn) (some (.d 0))),2⟩):=aw CZ (nm,kn) qq
    refine inner (BV tG) (BQ G) ok hn ak (f:= .k 159) (pos:=[.o 0,sA nm,sA kn, .d 0]) rfl ⟨⟨aj,rfl,rfl⟩,⟨t1,rfl⟩,⟨t2,rfl⟩,(rfl:([v3,y]:List Value)[0]?=some v3),trivial⟩ er fun W' h' tk u le R' hu=>?_
    have sS:u= .none:=hu
    subst sS
    exact done rfl le R'
 ·exact zS e
theorem yB(R:T.Rep G s.heap m W σ)(k3:i6 G.prog G.w W de fc)(fg:valueAt fc (S "result:")=some y):handedIn y=true:=by
 have:=k3.each (S "result:") 0 (by kernel_rfl)
 split at this
 ·refine ay this fun u x hx=>?_;clear this;replace x:=fg▸x;have oN:=aH x;clear x;subst oN;exact R.handed hx
 ·split at this
  ·replace this:=fg▸this;exact R.dat.hd _ _ this
  ·replace this:=fg▸this;exact zN this
theorem Mz(tG:eb G)(ok:T.Ok G n b W)(hn:5<=n)(R:T.Rep G s.heap m W σ)(hp:bE W pos us)(e:yq (bN G.P) σ.mem σ.nd pos=some z)(P:gV G T W m ⟨σ.loc,z.2.1,z.2.2⟩ (fun W u=>VR W z.1 u) Q s):
  wpAny (model G.prog G.w) T.A (call (.ref 173) us []) Q E s:=by
 have dI:aR.cls=G.P.cls:=tG.cls.symm
 unfold yq at e
 split at e
 ·rename_i x sn
  refine aM (Xh e) fun hq e1=>?_
  refine ab e1 fun cW e2 e3=>?_;clear e1;obtain ⟨i,tb⟩:=cW
  refine ab e3 fun de e8 e4=>?_;clear e3
  refine ab e4 fun bb e5 e6=>?_;clear e4
  have mC:=aH e6;clear e6;subst mC
  refine ay (nV hq) fun nm ja eY=>?_;clear hq;subst eY
  refine hp.Ci fun v0 v1 p0 p1=>?_;clear hp
  refine p1.eB fun t1=>?_;clear p1
  refine IC (tc R e2 p0) fun j aj a ob kvs Lj r O dQ V=>?_;clear p0;subst dQ
  refine qB (V.cut (S nm)) fun r1 l r2 cZ hl vk=>?_;subst cZ
  refine aM (p5 e8 vk) fun g3 g4=>?_
  rcases hl with ⟨hz,rfl⟩ | ⟨ea,oe,hz,rfl⟩
  ·have ak:=sR R V hz (g:=[]) (fun _ h=>zM h) dI
   rw [List.nil_append,eP] at ak
   have er:cH aR 5 (.k 173) [.o 0,sA nm] [] ⟨[],Mem.of (xA (S nm)),0⟩=some (.bool false,⟨[],Mem.of (xA (S nm)),0⟩):=aw Hf nm ja
   refine inner (BV tG) (BQ G) ok hn ak (f:= .k 173) (pos:=[.o 0,sA nm]) rfl ⟨⟨aj,rfl,rfl⟩,⟨t1,rfl⟩,trivial⟩ er fun W' h' tk u le R' hu=>?_
   have sS:u= .bool false:=hu
   subst sS
   refine eL (xa R' (ai le.bg rfl) (ai le.bg rfl) (by rw [le.eta];rfl) (of_get _ _) (of_get _ _)) fun l0 ml bf g0 g1 a0 hd ho hv=>?_
   have xD:valueAt bf (S nm)=none:=hv.none
   refine jC (kO (de':=de) (lE:=[]) (mem':=σ.mem) R V dI e8 g4 R' (GP g0 g1) a0 (ai le.bg rfl) hd ho (fun jR lF=>by refine aa xD ?_;replace g3:=hz▸g3;exact g3.mono lF) R.mem rfl (fun q=>by refine aa (hY e8) ?_;split;(· subst_vars;exact V.hi);rfl)) fun W2 wx eg er R2=>?_
   have hb:bb=false:=by
    replace g3:=hz▸g3
    refine fK g3 fun _ q4 q5=>?_;clear g3
    unfold Fn at e5
    replace e5:=q4▸e5
    dsimp only at e5
    split at e5
    ·have sk:=aH e5;clear e5;clear P e;subst sk;rfl
    ·rename_i b' qr
     have tg:=R.dat.tag (b'+2) _ (q5 b' qr 2 (by decide))
     split at e5
     ·have oK:=aH e5;clear e5;clear P e;subst oK;rfl
     ·rename_i ht;replace tg:=ht▸tg;refine iJ tg fun _ _ h _=>?_;clear tg;exact nomatch h
     ·exact zS e5
   subst hb
   exact P _ h' tk _ wx R2 rfl
  ·have q3:=g3
   replace q3:=hz▸q3
   refine eN (i6.of q3) fun fc k1 k2 k3=>?_
   have hb:bb=true:=by
    unfold Fn at e5
    split at e5
    ·have oH:=aH e5;clear e5;clear P e;subst oH;rfl
    ·rename_i W7
     refine dM (k3.here W7) fun b' u qr hg qZ=>?_
     replace e5:=qr▸e5
     dsimp only at e5
     have tg:=R.dat.tag (b'+2) _ hg
     split at e5
     ·rename_i ht;replace tg:=ht▸tg;exact absurd tg qZ
     ·have w6:=aH e5;clear e5;clear P e;subst w6;rfl
     ·exact zS e5
   subst hb
   have done:∀{W':Wd} {h':Heap} {tk:Tok} {ov:Option AV} {nd:Nat} {g:List Value},(wP aj a ea ob oe kvs fc Lj (S nm) (S "result:") g).le W'->Rep (G.at aR o6) T.h₀ T.L (r1++(r2++O)) h' m W' ⟨[],Mem.of (kf (S nm) (S "result:") ov),nd⟩->
     (∀x,fJ (VR W') ov x->x=valueAt fc (S "result:"))->Q (.bool true) {s with heap:=h',toks:=tk}:=by
    intro W' h' tk ov nd g le R' hov
    refine eL (xa R' (ai le.bg rfl) (ai le.bg rfl) (by refine aa le.eta ?_;rfl) (of_get _ _) (of_get _ _)) fun l0 ml bf g0 g1 a0 hd ho hv=>?_
    refine jB (LN R' (ai le.bg rfl) (by refine aa le.eta ?_;rfl) (of_get _ _)) fun I0 j4 g5 tN _ MD xD=>?_
    have sm:∀y,valueAt j4 y=valueAt fc y:=fun y=>by
     by_cases q:y=S "result:"
     ·refine aa q ?_;exact hov _ xD
     ·exact MD y q
    have hs:valueAt bf (S nm)=some (.ref ea):=by
     refine hv.someE fun z z1 z2=>?_
     refine ay z2 fun y y1 dq=>?_;clear z2;subst dq
     replace y1:=(ai le.bg (show (wP aj a ea ob oe kvs fc Lj (S nm) (S "result:") g).bg[2]?=some ea from rfl))▸y1
     have w5:=aH y1;clear y1;subst w5;exact z1
    refine jC (kO (de':=de) (lE:=[(ea,I0)]) (mem':=σ.mem) R V dI e8 g4 R' (GO g0 g1 g5) a0 (ai le.bg rfl) hd ho (fun jR lF=>by refine aa hs ?_;exact (k3.same lF sm).to tN k2) R.mem rfl (fun q=>by refine aa (hY e8) ?_;split;(· subst_vars;exact V.hi);rfl)) fun W2 wx eg er R2=>?_
    exact P _ h' tk _ wx R2 rfl
   generalize fg:valueAt fc (S "result:")=ir;induction ir with
   |none=>
    have ak:=ju R V hz k1 k2 k3.k4 (k:=S "result:") (ov:=none) (g:=[]) (fun _ h=>zM h) (by refine aa fg ?_;trivial) dI
    have er:cH aR 5 (.k 173) [.o 0,sA nm] [] ⟨[],Mem.of (kf (S nm) (S "result:") none),0⟩=some (.bool true,⟨[],Mem.of (kf (S nm) (S "result:") none),0⟩):=aw He nm ja
    refine inner (BV tG) (BQ G) ok hn ak (f:= .k 173) (pos:=[.o 0,sA nm]) rfl ⟨⟨aj,rfl,rfl⟩,⟨t1,rfl⟩,trivial⟩ er fun W' h' tk u le R' hu=>?_
    have sS:u= .bool true:=hu
    subst sS
    exact done le R' (fun x hx=>by refine aa fg ?_;exact hx.none)
   |some y=>
    have hy:=yB R k3 fg
    have ak:=ju R V hz k1 k2 k3.k4 (k:=S "result:") (ov:=some (.d 0)) (g:=[y]) (fun _ h=>by refine aa (dU h) ?_;exact hy) (by refine aa fg ?_;exact (rfl:([y]:List Value)[0]?=some y)) dI
    have er:cH aR 5 (.k 173) [.o 0,sA nm] [] ⟨[],Mem.of (kf (S nm) (S "result:") (some (.d 0))),1⟩=some (.bool true,⟨[],Mem.of (kf (S nm) (S "result:") (some (.d 0))),1⟩):=aw Hd nm ja
    refine inner (BV tG) (BQ G) ok hn ak (f:= .k 173) (pos:=[.o 0,sA nm]) rfl ⟨⟨aj,rfl,rfl⟩,⟨t1,rfl⟩,trivial⟩ er fun W' h' tk u le R' hu=>?_
    have sS:u= .bool true:=hu
    subst sS
    exact done le R' (fun x hx=>by refine hx.someE fun z dp hz=>?_;clear hx;subst dp;refine aa fg ?_;exact hz.symm.trans (ai le.gam rfl))
 ·exact zS e
theorem O7(tG:eb G)(ok:T.Ok G n b W)(hn:5<=n)(R:T.Rep G s.heap m W σ)(hp:bE W pos us)(e:yp σ.mem σ.nd pos=some z)(P:gV G T W m ⟨σ.loc,z.2.1,z.2.2⟩ (fun W u=>VR W z.1 u) Q s):
  wpAny (model G.prog G.w) T.A (call (.ref 180) us []) Q E s:=by
 have dI:aR.cls=G.P.cls:=tG.cls.symm
 unfold yp at e
 split at e
 ·rename_i x sn
  refine aM (Xh e) fun hq e1=>?_
  refine ab e1 fun fQ e2 e3=>?_;clear e1;obtain ⟨i,tb⟩:=fQ
  refine ab e3 fun de e8 e4=>?_;clear e3
  have wZ:=aH e4;clear e4;subst wZ
  refine ay (nV hq) fun nm ja eX=>?_;clear hq e;subst eX
  refine hp.Ci fun v0 v1 p0 p1=>?_;clear hp
  refine p1.eB fun t1=>?_;clear p1
  refine IC (tc R e2 p0) fun j aj a ob kvs Lj r O fO V=>?_;clear p0;subst fO
  refine qB (V.cut (S nm)) fun r1 l r2 eW hl vk=>?_;subst eW
  refine aM (p5 e8 vk) fun g3 g4=>?_
  have F4:(σ.mem.set i (.db (b8 (code (S nm)) ([],none) tb))).ok:=Mem.kz R.mem _ _
  have gone:∀{W':Wd} {h':Heap} {tk:Tok} {aF:St},W'.bg[0]?=some aj->W'.bg[1]?=some a->W'.eta[0]?=some (kvs.filter (jE [(code (S nm),none)]))->Rep (G.at aR o6) T.h₀ T.L (r1++(r2++O)) h' m W' aF->aF.mem.get 0=some (.inst 190 [(vV, .o 1)])->aF.mem.get 1=some (.pmap [(code (S nm),none)] 0)->
    Q .none {s with heap:=h',toks:=tk}:=by
   intro W' h' tk aF r0 r1' et R' m0 m1
   refine eL (xa R' r0 r1' et m0 m1) fun l0 ml bf g0 g1 a0 hd ho hv=>?_
   have xD:valueAt bf (S nm)=none:=hv.none
   refine jC (kO (de':=([],none)) (lE:=[]) R V dI e8 g4 R' (GP g0 g1) a0 r1' hd ho (fun jR lF=>by refine aa xD ?_;exact ⟨rfl,rfl,fun b h=>zS h⟩) F4 rfl (se V.hi)) fun W2 wx eg er R2=>?_
   exact P _ h' tk _ wx R2 rfl
  rcases hl with ⟨hz,rfl⟩ | ⟨ea,oe,hz,rfl⟩
  ·have ak:=sR R V hz (g:=[]) (fun _ h=>zM h) dI
   rw [List.nil_append,eP] at ak
   have er:cH aR 5 (.k 180) [.o 0,sA nm] [] ⟨[],Mem.of (xA (S nm)),0⟩=some (.none,⟨[],Mem.of (xA (S nm)),0⟩):=aw G9 nm ja
   refine inner (BV tG) (BQ G) ok hn ak (f:= .k 180) (pos:=[.o 0,sA nm]) rfl ⟨⟨aj,rfl,rfl⟩,⟨t1,rfl⟩,trivial⟩ er fun W' h' tk u le R' hu=>?_
   have sS:u= .none:=hu
   subst sS
   exact gone (ai le.bg rfl) (ai le.bg rfl) (by rw [le.eta];rfl) R' (of_get _ _) (of_get _ _)
  ·have q3:=g3
   replace q3:=hz▸q3
   refine eN (i6.of q3) fun fc k1 k2 k3=>?_
   generalize fg:valueAt fc (S "result:")=ny;induction ny with
   |none=>
    have ak:=ju R V hz k1 k2 k3.k4 (k:=S "result:") (ov:=none) (g:=[]) (fun _ h=>zM h) (by refine aa fg ?_;trivial) dI
    have er:cH aR 5 (.k 180) [.o 0,sA nm] [] ⟨[],Mem.of (kf (S nm) (S "result:") none),0⟩=some (.none,⟨[],Mem.of [.inst 190 [(vV, .o 1)], .pmap [(code (S nm),none)] 0, .pmap [(code (S "result:"),none)] 1],0⟩):=aw G8 nm ja
    refine inner (BV tG) (BQ G) ok hn ak (f:= .k 180) (pos:=[.o 0,sA nm]) rfl ⟨⟨aj,rfl,rfl⟩,⟨t1,rfl⟩,trivial⟩ er fun W' h' tk u le R' hu=>?_
    have sS:u= .none:=hu
    subst sS
    exact gone (ai le.bg rfl) (ai le.bg rfl) (by refine aa le.eta ?_;rfl) R' (of_get _ _) (of_get _ _)
   |some y=>
    have hy:=yB R k3 fg
    have ak:=ju R V hz k1 k2 k3.k4 (k:=S "result:") (ov:=some (.d 0)) (g:=[y]) (fun _ h=>by refine aa (dU h) ?_;exact hy) (by refine aa fg ?_;exact (rfl:([y]:List Value)[0]?=some y)) dI
    have er:cH aR 5 (.k 180) [.o 0,sA nm] [] ⟨[],Mem.of (kf (S nm) (S "result:") (some (.d 0))),1⟩=some (.none,⟨[],Mem.of [.inst 190 [(vV, .o 1)], .pmap [(code (S nm),none)] 0, .pmap [(code (S "result:"),some (.d 0))] 1],1⟩):=aw G7 nm ja
    refine inner (BV tG) (BQ G) ok hn ak (f:= .k 180) (pos:=[.o 0,sA nm]) rfl ⟨⟨aj,rfl,rfl⟩,⟨t1,rfl⟩,trivial⟩ er fun W' h' tk u le R' hu=>?_
    have sS:u= .none:=hu
    subst sS
    exact gone (ai le.bg rfl) (ai le.bg rfl) (by refine aa le.eta ?_;rfl) R' (of_get _ _) (of_get _ _)
 ·exact zS e
end
noncomputable def u9(W:Wd)(i:Nat):List (Addr×Obj):=W.ls[i]?.getD []
noncomputable def Wd.cut(W:Wd)(pi:List Nat)(gam:List Value):Wd:=⟨pi.map fun i=>W.bg[i]?.getD 0,pi.map (u9 W),W.fx++(((List.range W.ls.length).filter fun i=>!dG i pi).map (u9 W)).flatten,gam,W.eta⟩
theorem Du(W:Wd):(List.range W.ls.length).map (u9 W)=W.ls:=by
 apply List.ext_getElem?
 intro i
 refine aa List.getElem?_map ?_
 by_cases h:i<W.ls.length
 ·refine aa (List.getElem?_range h ..) (aa (Option.map_some ..) (aa (iV h ..) ?_))
  unfold u9
  refine aa (iV h) ?_;rfl
 ·refine aa (List.getElem?_eq_none (by simpa using h)) (aa (List.getElem?_eq_none (Nat.not_lt.mp h)) ?_);rfl
theorem Fo(W:Wd)(nd:pi.Nodup)(lt:∀i∈pi,i<W.ls.length)(gam:List Value)(fz:List (Addr×Obj)):((W.cut pi gam).news fz).Perm (W.news fz):=by
 have p:(pi++(List.range W.ls.length).filter fun i=>!dG i pi).Perm (List.range W.ls.length):=by
  refine (List.perm_ext_iff_of_nodup ?_ List.nodup_range).mpr fun a=>?_
  ·rw [List.nodup_append]
   refine ⟨nd,List.nodup_range.filter _,fun x hx y hy e=>?_⟩
   subst e
   have:=(List.mem_filter.mp hy).2
   replace this:=((dF _ _).mpr hx)▸this;exact zT this
  ·rw [List.mem_append,List.mem_filter,List.mem_range]
   constructor
   ·rintro (h | h)
    ·exact lt a h
    ·exact h.1
   ·intro h
    generalize q:dG a pi=bZ;induction bZ with
    |true=>exact .inl ((dF _ _).mp q)
    |false=>exact .inr ⟨h,rfl⟩
 have p2:=(p.map (u9 W)).flatten
 replace p2:=(Du ..)▸p2;replace p2:=(List.map_append ..)▸p2;replace p2:=(List.flatten_append ..)▸p2
 show ((pi.map (u9 W)).flatten++((W.fx++_)++fz)).Perm (W.ls.flatten++(W.fx++fz))
 refine List.Perm.trans ?_ (List.Perm.append_right _ p2)
 refine aa (eP ..) (aa (eP ..) ?_)
 refine List.Perm.append_left _ ?_
 refine aa (Eq.symm (eP ..)) (aa (Eq.symm (eP ..)) ?_)
 exact List.Perm.append_right _ List.perm_append_comm
theorem Nc{W:Wd}(h:dG j pi=false)(hl:W.ls[j]?=some l)(hp:p∈l):p∈(W.cut pi gam).fx:=by
 refine List.mem_append_right _ (List.mem_flatten.mpr ⟨l,List.mem_map.mpr ⟨j,List.mem_filter.mpr ⟨List.mem_range.mpr (jN hl).1,by refine aa h ?_;rfl⟩,?_⟩,hp⟩)
 unfold u9;refine aa hl ?_;rfl
noncomputable def cV(pi:List Nat)(a:AV):AV:=match a with
 | .o j=> .o (pi[j]?.getD 0)
 |a=>a
noncomputable def Dn(pi:List Nat)(o:AO):AO:=match o with
 | .inst C fs=> .inst C (fs.map fun p=>(p.1,cV pi p.2))
 | .list xs=> .list (xs.map (cV pi))
 | .tup xs=> .tup (xs.map (cV pi))
 | .dict es=> .dict (es.map fun p=>(p.1,p.2.1,cV pi p.2.2))
 |o=>o
noncomputable def kB(n k:Nat)(a:AV):Bool:=match a with
 | .d j=>Nat.ble 57 j&&Nat.blt j (57+k)
 | .o j=>Nat.blt j n
 |_=>true
noncomputable def jU(n k:Nat)(o:AO):Bool:=match o with
 | .inst _ fs=>fs.all fun p=>kB n k p.2
 | .list xs=>xs.all (kB n k)
 | .tup xs=>xs.all (kB n k)
 | .dict es=>es.all fun p=>kB n k p.2.2
 | .cy=>true
 | .gone=>true
 |_=>false
noncomputable abbrev cJ(n:Nat)(a:AV):Bool:=kB n 0 a
section
noncomputable def yc(W:Wd)(gam:List Value)(k:Nat):Prop:=∀j v,57<=j->j<57+k->W.gam[j]?=some v->gam[j]?=some v
theorem VR.cut(hg:yc W gam k)(r:kB pi.length k a=true)(h:VR W (cV pi a) v):VR (W.cut pi gam) a v:=by
 induction a with
 |d i=>
  have r:(Nat.ble 57 i&&Nat.blt i (57+k))=true:=r
  replace r:=(Bool.and_eq_true ..)▸r
  exact hg i v (zd r.1) (zd r.2) h
 |o j=>
  refine VR.oM h fun b e=>?_;clear h
  have hj:j<pi.length:=zd r
  replace e:=(iV hj)▸e
  refine ⟨b,?_,rfl⟩
  show (pi.map _)[j]?=_
  refine aa (List.getElem?_map ..) (aa (iV hj ..) (aa (Option.map_some ..) ?_))
  exact congrArg some (by show W.bg[pi[j]]?.getD 0=b;refine aa (show W.bg[pi[j]]?=some b from e) ?_;rfl)
 |_=>exact h
theorem bE.cut(hg:yc W gam k):∀{as:List AV} {vs:List Value},as.all (kB pi.length k)=true->bE W (as.map (cV pi)) vs->bE (W.cut pi gam) as vs
 | [],[],_,_=>trivial
 |a::as,v::vs,r,h=>by
  replace r:=(List.all_cons ..)▸r;replace r:=(Bool.and_eq_true ..)▸r
  exact ⟨h.1.cut hg r.1,bE.cut hg r.2 h.2⟩
 | [],_::_,_,h=>h.elim
 |_::_,[],_,h=>h.elim
theorem FR.cut(hg:yc W gam k):∀{fs:aL} {es:List DictEntry},FR W (fs.map fun p=>(p.1,cV pi p.2)) es->(fs.all fun p=>kB pi.length k p.2)=true->FR (W.cut pi gam) fs es
 | [],es,h,_=>by cases h;exact .nil
 |(c,a)::fs,es,h,r=>by
  replace r:=(List.all_cons ..)▸r;replace r:=(Bool.and_eq_true ..)▸r
  replace h:=List.map_cons▸h
  cases h with
  |cons k v q=>exact .cons k (v.cut hg r.1) (FR.cut hg q r.2)
theorem DR.cut(hg:yc W gam k)(h:DR W rq kvs):∀{es:bk},rq=(es.map fun p=>(p.1,p.2.1,cV pi p.2.2))->(es.all fun p=>kB pi.length k p.2.2)=true->DR (W.cut pi gam) es kvs:=by
 induction h with
 |nil=>intro es e _;induction es using iM with | nil=>exact .nil | cons _ _=>exact zL e
 |cons v _ ih=>
  intro es e r
  induction es using iM with
  |nil=>exact zK e
  |cons p es=>
   obtain ⟨c,x,a⟩:=p
   replace e:=(List.map_cons ..)▸e;replace e:=(List.cons.injEq ..)▸e;replace e:=(Prod.mk.injEq ..)▸e;replace e:=(Prod.mk.injEq ..)▸e
   refine aM e fun cw e4=>?_;clear e;obtain ⟨e1,e2,e3⟩:=cw
   have e1:_=c:=e1
   have e2:_=x:=e2
   subst e1;subst e2
   replace r:=(List.all_cons ..)▸r;replace r:=(Bool.and_eq_true ..)▸r
   exact .cons (VR.cut hg r.1 (e3▸v)) (ih e4 r.2)
theorem qW(f:α->β)(x:Nat):∀l:List (Nat×α),ah x (l.map fun p=>(p.1,f p.2))=(ah x l).map f
 | []=>rfl
 |(a,b)::l=>by
  refine aa (List.map_cons ..) (aa (aI ..) (aa (aI ..) (aa (qW f x l ..) ?_)))
  split<;>rfl
theorem jD.cut(hg:yc W gam k)(r:jU pi.length k o=true)(h:jD prog w P W a (Dn pi o) l):jD prog w P (W.cut pi gam) a o l:=by
 induction o with
 |inst C fs=>refine ID h fun dx es k ci e f q q'=>?_;clear h;exact ⟨dx,es,k,ci,e,f.cut hg r,q,fun x v hx=>q' x (cV pi v) (by refine aa (qW ..) (aa (hx ..) ?_);rfl)⟩
 |list xs=>refine iJ h fun vs k e q=>?_;clear h;exact ⟨vs,k,e,q.cut hg r⟩
 |tup xs=>refine mj h fun vs ob k e c d q=>?_;clear h;exact ⟨vs,ob,k,e,c,d,q.cut hg r⟩
 |dict es=>refine mX h fun ob kvs e c lo q=>?_;clear h;exact ⟨ob,kvs,e,c,lo,q.cut hg rfl r⟩
 |cy=>exact h
 |gone=>trivial
 |_=>exact zT r
noncomputable def dN:Nat->List Str->bk
 |_,[]=>[]
 |b,x::r=>(code x,x, .d b)::dN (b+1) r
theorem DR.fold(h:DR W es kvs):∀{ae:Wd} {b:Nat},(∀i v,kvs[i]?=some v->ae.gam[b+i]?=some v.2)->DR ae (dN b (es.map (·.2.1))) kvs:=by
 induction h with
 |nil=>intro _ _ _;exact .nil
 |cons v _ ih=>
  intro ae b g
  refine .cons (show ae.gam[b]?=_ from g 0 _ rfl) (ih fun i v e=>?_)
  refine aa (Nat.add_assoc ..) (aa (Nat.add_comm 1 i ..) ?_)
  exact g (i+1) v e
theorem DR.vals(h:DR W es kvs):bE W (es.map (·.2.2)) (kvs.map (·.2)):=by
 induction h with
 |nil=>trivial
 |cons v _ ih=>exact ⟨v,ih⟩
noncomputable def iO:Nat->Str
 | 0=>S "result:"
 | 1=>S "_values_:"
 | 2=>S "checker:"
 |_=>S "deps:"
theorem AL{k:Str}(h:gI (code k)=some j):k=iO j:=by
 have h':(Bool.rec (Bool.rec (Bool.rec (Bool.rec none (some 3) (Nat.beq (code k) (code (S "deps:")))) (some 2) (Nat.beq (code k) (code (S "checker:")))) (some 1) (Nat.beq (code k) (code (S "_values_:")))) (some 0) (Nat.beq (code k) (code (S "result:"))):Option Nat)=some j:=h
 generalize h0:Nat.beq (code k) (code (S "result:"))=ir;induction ir with
 |true=>replace h':=h0▸h';have fG:=aH h';clear h';clear h;subst fG;exact code_inj (iL h0)
 |false=>
  replace h':=h0▸h'
  generalize h1:Nat.beq (code k) (code (S "_values_:"))=ny;induction ny with
  |true=>replace h':=h1▸h';have gF:=aH h';clear h';clear h;subst gF;exact code_inj (iL h1)
  |false=>
   replace h':=h1▸h'
   generalize h2:Nat.beq (code k) (code (S "checker:"))=rS;induction rS with
   |true=>replace h':=h2▸h';have gg:=aH h';clear h';clear h;subst gg;exact code_inj (iL h2)
   |false=>
    replace h':=h2▸h'
    generalize h3:Nat.beq (code k) (code (S "deps:"))=tR;induction tR with
    |true=>replace h':=h3▸h';have gR:=aH h';clear h';clear h;subst gR;exact code_inj (iL h3)
    |false=>replace h':=h3▸h';exact zS h'
theorem yQ:∀j,j<4->gI (code (iO j))=some j:=by decide +kernel
noncomputable def te(de:bk×Option Nat)(j:Nat):AV:=match bP (code (iO j)) de.1 with
 |some a=>a
 |none=>match de.2 with
  |some b=> .d (b+j)
  |none=> .none
noncomputable def vy(de:bk×Option Nat):Bool:=match de.1 with
 | []=>true
 |_::_=>match bP (code (iO 2)) de.1 with
  |some (.str _)=>true
  |_=>false
theorem il.fold(h:il prog w W de ov l)(hf:vy de=true):∃g:Nat->Value,(∀j,j<4->VR W (te de j) (g j))/\∀{ae:Wd} {b:Nat},(∀j,j<4->ae.gam[b+j]?=some (g j))->il prog w ae ([],some b) ov l:=by
 induction ov with
 |none=>
  refine fK h fun h1 h2 h3=>?_;clear h
  refine ⟨fun _=> .none,fun j hj=>?_,fun {ae b} g=>⟨h1,rfl,fun b' e j hj=>by have cW:=aH e;clear e;subst cW;exact g j hj⟩⟩
  unfold te
  refine aa h2 ?_
  generalize hb:de.2=Gn;induction Gn with
  |none=>rfl
  |some b=>exact h3 b hb j hj
 |some v=>
  refine eL h fun e ob kvs dC dk h3 h4 eD h7=>?_;clear h;subst dC dk;obtain ⟨h5,h6⟩:=eD
  have key:∀j,j<4->VR W (te de j) ((valueAt kvs (iO j)).getD .none):=fun j hj=>by
   have:=h7 _ j (yQ j hj)
   unfold te
   generalize q:bP (code (iO j)) de.1=Ov;induction Ov with
   |some a=>
    replace this:=q▸this
    refine ay this fun u e1 e2=>?_;clear this
    refine aa e1 ?_;exact e2
   |none=>
    replace this:=q▸this
    generalize hb:de.2=Ou;induction Ou with
    |some b=>replace this:=hb▸this;exact this
    |none=>replace this:=hb▸this;refine aa (show valueAt kvs (iO j)=none from this) ?_;rfl
  refine ⟨fun j=>(valueAt kvs (iO j)).getD .none,key,fun {ae b} g=>⟨e,ob,kvs,rfl,rfl,h3,h4,⟨h5,fun _=>⟨b,_,rfl,g 2 (zd rfl),fun z=>?_⟩⟩,fun k j hk=>?_⟩⟩
  ·have k2:=key 2 (zd rfl)
   generalize hd:de.1=Xl;induction Xl using iM with
   |nil=>
    refine dM (h6 hd) fun b' u e1 e2 e3=>?_
    have:=h7 _ 2 (yQ 2 (zd rfl))
    replace this:=hd▸this
    have this:(match de.2 with
     |some b=>W.gam[b+2]?=some ((valueAt kvs (iO 2)).getD .none)
     |none=>valueAt kvs (iO 2)=none):=this
    replace this:=e1▸this
    have this:W.gam[b'+2]?=some ((valueAt kvs (iO 2)).getD .none):=this
    replace this:=e2▸this
    exact e3 ((aH this).trans z)
   |cons p r=>
    unfold vy at hf
    replace hf:=hd▸hf
    unfold te at k2
    replace k2:=hd▸k2
    generalize hl:bP (code (iO 2)) (p::r)=J8;induction J8 with
    |none=>replace hf:=hl▸hf;exact zT hf
    |some a=>
     replace hf:=hl▸hf;replace k2:=hl▸k2
     induction a with
     |str s=>refine aU k2 fun t q=>?_;clear k2;exact nomatch (show Value.none= .str s t from z.symm.trans q)
     |_=>exact zT hf
  ·have:=AL hk
   subst this
   show ae.gam[b+j]?=_
   exact g j (lJ hk).1
noncomputable def Kp:Nat->List (Nat×bk×Option Nat)->List (Nat×bk×Option Nat)
 |_,[]=>[]
 |b,p::r=>(p.1,[],some b)::Kp (b+4) r
noncomputable def OH:List (Nat×bk×Option Nat)->List AV
 | []=>[]
 |p::r=>te p.2 0::te p.2 1::te p.2 2::te p.2 3::OH r
theorem mY.fold(h:mY prog w W kvs tb r):(tb.all fun p=>vy p.2)=true->∃g:List Value,bE W (OH tb) g/\∀{ae:Wd} {b:Nat},(∀i v,g[i]?=some v->ae.gam[b+i]?=some v)->mY prog w ae kvs (Kp b tb) r:=by
 induction h with
 |nil=>intro _;exact ⟨[],trivial,fun _=> .nil⟩
 |cons e _ ih=>
  intro hf
  replace hf:=(List.all_cons ..)▸hf;replace hf:=(Bool.and_eq_true ..)▸hf
  refine ay (e.fold hf.1) fun g1 a1 a2=>?_
  refine ay (ih hf.2) fun g b1 b2=>?_
  refine ⟨g1 0::g1 1::g1 2::g1 3::g,⟨a1 0 (zd rfl),a1 1 (zd rfl),a1 2 (zd rfl),a1 3 (zd rfl),b1⟩,fun {ae b} q=> .cons (a2 fun j hj=>?_) (b2 fun i v e=>?_)⟩
  ·refine q j _ ?_
   match j,hj with
   | 0,_=>rfl
   | 1,_=>rfl
   | 2,_=>rfl
   | 3,_=>rfl
  ·refine aa (Nat.add_assoc ..) (aa (Nat.add_comm 4 i ..) ?_)
   exact q (i+4) v e
end
noncomputable def cC(pv:Nat->PV):PV->PV
 | .int i=>pv i.toNat
 | .tup l=> .tup (cC pv l)
 | .list l=> .list (cC pv l)
 | .dict l=> .dict (cC pv l)
 | .cons a r=> .cons (cC pv a) (cC pv r)
 | .ent k a r=> .ent k (cC pv a) (cC pv r)
 |x=>x
theorem IsL.sub(hf:∀p∈fx,p∈BW)(hl:∀n v,n<kn->gam[n]?=some v->Is prog w BW (pv n) (.v v))(h:IsL prog w fx (EH kn gam) x t):Is prog w BW (cC pv x) t:=by
 induction h with
 |none=>exact .none
 |int q=>
  refine eN q fun n b7 h1 h2=>?_;clear q;subst b7
  exact hl n _ h1 h2
 |str=>exact .str
 |tup a b c d _ ih=>exact .tup (hf _ a) b c d ih
 |list a b c d _ ih=>exact .list (hf _ a) b c d ih
 |dict a b c d _ ih=>exact .dict (hf _ a) b c d ih
 |nil=>exact .nil
 |cons _ _ i1 i2=>exact .cons i1 i2
 |xP=>exact .xP
 |ent _ _ i1 i2=>exact .ent i1 i2
noncomputable def uk:List Nat:=[2,3,4,5,6,10,11,12,13,35]
noncomputable def dictAt(m:Mem)(i:Nat):bk:=match m.get i with
 |some (.dict es)=>es
 |_=>[]
noncomputable def vS(m:Mem):List (Nat×bk×Option Nat):=match m.get 1 with
 |some (.db tb)=>tb
 |_=>[]
noncomputable def cellAt(m:Mem):List AV:=match m.get 0 with
 |some (.cell v)=>[v]
 |_=>[]
noncomputable def DH(pi:List Nat)(i:Nat):Nat:=pi[i]?.getD 0
noncomputable def zm(pi:List Nat)(m:Mem):List AV:=(dictAt m (DH pi 7)).map (·.2.2)++((dictAt m (DH pi 8)).map (·.2.2)++(OH (vS m)++(dictAt m (DH pi 9)).map (·.2.2)))
noncomputable def br(c:Bool)(subs:List String):List AO:=(bif c then .cell (.d 56) else .cy)::(vX subs).tail
structure Fd where
 fix:List (Option Nat)
 m3:List (Option AO)
 k7:List Str
 k8:List Str
 k9:List Str
 kt:List (Nat×bk×Option Nat)
 ce:Bool×Nat
 ful:Bool
 sh:List (Option PV)
 ex:List (Option AO)
noncomputable def fdOf(pi:List Nat)(σ:St):Fd:=⟨[pi[0]?,pi[1]?],uk.map fun i=>σ.mem.get (pi[i]?.getD 0),(dictAt σ.mem (DH pi 7)).map (·.2.1),(dictAt σ.mem (DH pi 8)).map (·.2.1),(dictAt σ.mem (DH pi 9)).map (·.2.1),Kp 14 (vS σ.mem),
 (Option.rec false zk (σ.mem.get 0),(cellAt σ.mem).length),pi.all (fun i=>Nat.blt i σ.mem.n)&&(vS σ.mem).all fun p=>vy p.2,(zm pi σ.mem).map (Kz pi σ.nd σ.mem 8),(pi.drop 47).map fun i=>σ.mem.get i⟩
noncomputable def Ho(pi:List Nat)(i:Nat)(o:AO):AO:=cond (Nat.beq i 6) o (cond (Nat.beq i 35) o (Dn pi o))
noncomputable def gO(ex:List AO)(pi:List Nat)(c:Bool)(subs:List String)(sh:List (Option PV)):Fd:=⟨[some 0,some 1],uk.map fun i=>(vX subs)[i]?.map (Ho pi i),Az.map S,Az.map S,["U", "V"].map S,Xf,(true,bif c then 1 else 0),true,sh,ex.map fun o=>some (Dn pi o)⟩
noncomputable def lY(pi:List Nat)(c:Bool)(subs:List String)(sh:List (Option PV)):Fd:=gO [] pi c subs sh
theorem sZ(h:dictAt m i≠[]):m.get i=some (.dict (dictAt m i)):=by
 unfold dictAt at h ⊢
 split at h
 ·rename_i es e;exact aa e rfl
 ·exact absurd rfl h
theorem VA(h:vS m≠[]):m.get 1=some (.db (vS m)):=by
 unfold vS at h ⊢
 split at h
 ·rename_i es e;exact aa e rfl
 ·exact absurd rfl h
theorem La(subs:List String):(uk.map fun i=>((vX subs)[i]?.map (jU 47 0)))=uk.map fun _=>some true:=by
 have h:∀xs:List String,(xs.map sA).all (cJ 47)=true:=fun xs=>by
  induction xs with
  |nil=>rfl
  |cons x r ih=>refine aa List.map_cons (aa List.all_cons (aa ih ?_));rfl
 have h2:jU 47 0 (.list (["Gx"].map sA++subs.map sA ++ ["M"].map sA))=true:=by
  show ((["Gx"].map sA++subs.map sA ++ ["M"].map sA).all (cJ 47))=true
  rw [List.all_append,List.all_append,h,h,h];rfl
 have h3:jU 47 0 (.list (subs.map sA))=true:=h subs
 show [some true,some true,some true,some true,some (jU 47 0 (.list (subs.map sA))),some true,some true,some true,some true,some (jU 47 0 (.list (["Gx"].map sA++subs.map sA ++ ["M"].map sA)))]=_
 refine aa h2 (aa h3 ?_);rfl
theorem ji(pi:List Nat):∀xs:List String,(xs.map sA).map (cV pi)=xs.map sA
 | []=>rfl
 |x::r=>congrArg (sA x :: ·) (ji pi r)
theorem Hn(h:(vX subs)[i]?=some o):Ho pi i o=Dn pi o:=by
 unfold Ho
 by_cases h6:i=6
 ·subst h6
  have:o= .list (subs.map sA):=(aH h).symm
  subst this
  exact congrArg AO.list (ji pi subs).symm
 ·refine aa (show Nat.beq i 6=false from Bool.eq_false_iff.mpr fun e=>h6 (iL e)) ?_
  by_cases h35:i=35
  ·subst h35
   have:o= .list (["Gx"].map sA++subs.map sA ++ ["M"].map sA):=(aH h).symm
   subst this
   refine congrArg AO.list ?_
   exact aa (List.map_append ..) (aa (List.map_append ..) (aa (ji ..) (aa (ji ..) (aa (ji ..) rfl))))
  ·refine aa (show Nat.beq i 35=false from Bool.eq_false_iff.mpr fun e=>h35 (iL e)) ?_
   rfl
theorem Bz(c:Bool)(subs:List String):∀i o,(br c subs)[i]?=some o->i<47/\((i∈uk/\(vX subs)[i]?=some o)\/(i=0/\o=bif c then .cell (.d 56) else .cy)\/(i=1/\o= .db Xf)\/(i=7/\o= .dict (dN 0 (Az.map S)))\/(i=8/\o= .dict (dN 7 (Az.map S)))\/(i=9/\o= .dict (dN 42 (["U", "V"].map S)))\/o= .gone):=by
 intro i o h
 have hi:i<47:=(jN h).1
 refine ⟨hi,?_⟩
 by_cases Vc:14<=i
 ·obtain ⟨j,rfl⟩:∃j,i=14+j:=⟨i-14,(Nat.add_sub_cancel' Vc).symm⟩
  have e:((br c subs).drop 14)[j]?=some o:=by refine aa List.getElem?_drop ?_;exact h
  have e:(List.replicate 21 AO.gone++(.list (["Gx"].map sA++subs.map sA ++ ["M"].map sA)::List.replicate 11 AO.gone))[j]?=some o:=e
  have gone:∀{n k:Nat} {o:AO},(List.replicate n AO.gone)[k]?=some o->o= .gone:=fun h=>(List.mem_replicate.mp (kW h)).2
  by_cases h21:j<21
  ·rw [List.getElem?_append_left (by rw [List.length_replicate];exact h21)] at e
   exact .inr (.inr (.inr (.inr (.inr (.inr (gone e))))))
  ·rw [List.getElem?_append_right (by rw [List.length_replicate];exact Nat.le_of_not_lt h21),List.length_replicate] at e
   obtain ⟨k,rfl⟩:∃k,j=21+k:=⟨j-21,(Nat.add_sub_cancel' (Nat.le_of_not_lt h21)).symm⟩
   replace e:=(Nat.add_sub_cancel_left ..)▸e
   induction k using Nat.casesOn with
   |zero=>exact .inl ⟨by decide,e⟩
   |succ k=>exact .inr (.inr (.inr (.inr (.inr (.inr (gone (k:=k) (n:=11) e))))))
 ·have r:∀j,j∈[2,3,4,5,6,10,11,12,13]->(br c subs)[j]?=some o->j∈uk/\(vX subs)[j]?=some o:=fun j hj h=>by
   refine ⟨sJ [35] hj,?_⟩
   induction j using Nat.casesOn with
   |zero=>exact absurd hj (by decide)
   |succ j=>exact h
  match i,h with
  | 0,h=>exact .inr (.inl ⟨rfl,(aH h).symm⟩)
  | 1,h=>exact .inr (.inr (.inl ⟨rfl,(aH h).symm⟩))
  | 2,h | 3,h | 4,h | 5,h | 6,h | 10,h | 11,h | 12,h | 13,h=>exact .inl (r _ (by decide) h)
  | 7,h=>exact .inr (.inr (.inr (.inl ⟨rfl,(aH h).symm⟩)))
  | 8,h=>exact .inr (.inr (.inr (.inr (.inl ⟨rfl,(aH h).symm⟩))))
  | 9,h=>exact .inr (.inr (.inr (.inr (.inr (.inl ⟨rfl,(aH h).symm⟩)))))
  |i+14,_=>exact absurd (Nat.le_add_left 14 i) Vc
noncomputable def gy(c:Bool)(subs:List String)(ex:List AO):List AO:=br c subs++ex
theorem jy(c:Bool)(subs:List String):(br c subs).length=47:=rfl
theorem hR(h:n<=k)(r:cJ n a=true):kB k u a=true:=by
 induction a with
 |o j=>exact Nat.ble_eq_true_of_le (Nat.le_trans (zd r) h)
 |d i=>
  have r:(Nat.ble 57 i&&Nat.blt i (57+0))=true:=r
  replace r:=(Bool.and_eq_true ..)▸r
  exact absurd (zd r.2) (Nat.not_le.mpr (Nat.lt_succ_of_le (zd r.1)))
 |_=>rfl
theorem me{p q:α->Bool}(h:∀a,p a=true->q a=true){l:List α}(r:l.all p=true):l.all q=true:=List.all_eq_true.mpr fun a ha=>h a (pk r a ha)
theorem Ar(h:n<=k){o:AO}(r:jU n 0 o=true):jU k u o=true:=by
 induction o with
 |inst C fs=>exact me (fun _=>hR h) r
 |list xs=>exact me (fun _=>hR h) r
 |tup xs=>exact me (fun _=>hR h) r
 |dict es=>exact me (fun _=>hR h) r
 |cy=>rfl
 |gone=>rfl
 |_=>exact zT r
noncomputable def bl:List Nat:=List.range 47
noncomputable def same:List PV:=(List.range 44).map fun i=> .int (i:Nat)
theorem jD.par(e:P'.cls=P.cls)(h:jD prog w P W a o l):jD prog w P' W a o l:=by
 induction o with
 |inst C fs=>refine NG h fun dx es n ci h1 h2 h3=>?_;clear h;exact ⟨dx,es,n,ci,h1,h2,by refine aa e ?_;exact h3⟩
 |_=>exact h
theorem oj:∀{b:Nat} {tb:List (Nat×bk×Option Nat)},(Kp b tb).map (·.1)=tb.map (·.1)
 |_,[]=>rfl
 |b,p::r=>congrArg (p.1 :: ·) (oj (b:=b+4) (tb:=r))
theorem jr:∀{l:List (Nat×α)},(ah x l).isSome=true<->x∈l.map (·.1)
 | []=>by simp [ah]
 |(a,b)::r=>by
  rw [aI,List.map_cons,List.mem_cons]
  by_cases q:a=x
  ·rw [if_pos q];simp [q]
  ·rw [if_neg q,jr (l:=r)]
   constructor
   ·exact .inr
   ·rintro (e | e)
    ·exact absurd e.symm q
    ·exact e
theorem iC{a b:List α}(h:a.length=n)(e:b[i]?=some v):(a++b)[n+i]?=some v:=by
 refine aa (List.getElem?_append_right (by omega) ..) (aa (h ..) (aa (Nat.add_sub_cancel_left ..) ?_));exact e
theorem ig{a b:List α}{i:Nat}(e:a[i]?=some v):(a++b)[i]?=some v:=by
 refine aa (List.getElem?_append_left (jN e).1) ?_;exact e
theorem Rep.fold{h₀ h:Heap}{L:Addr}(R:Rep G h₀ L fz h m W σ)(hp:pi.length=47+ex.length)(NZ:pi.Nodup)(hex:ex.all (jU (47+ex.length) k)=true)(F:fdOf pi σ=gO ex pi c subs sh):
  ∃g gc:List Value,g.length=44/\bE W (zm pi σ.mem) g/\bE W (cellAt σ.mem) gc/\gc.length=(bif c then 1 else 0)/\∀{gam:List Value} {P:bA} {I:Nat->Option Int} {loc:aL},(∀(i:Nat) v,g[i]?=some v->gam[i]?=some v)->(∀v,gc[0]?=some v->gam[56]?=some v)->yc W gam k->P.cls=G.P.cls->cv (W.cut pi gam) m loc->DatAll (G.at P I) (W.cut pi gam)->Rep (G.at P I) h₀ L fz h m (W.cut pi gam) ⟨loc,Mem.of (gy c subs ex),gam.length⟩:=by
 have Fi:=congrArg Fd.fix F
 have F1:=congrArg Fd.m3 F
 have F7:=congrArg Fd.k7 F
 have F8:=congrArg Fd.k8 F
 have F9:=congrArg Fd.k9 F
 have Ft:=congrArg Fd.kt F
 have Fc:=congrArg Fd.ce F
 have Ff:=congrArg Fd.ful F
 have Fe:((pi.drop 47).map fun i=>σ.mem.get i)=ex.map fun o=>some (Dn pi o):=congrArg Fd.ex F
 clear F
 have Fi:[pi[0]?,pi[1]?]=[some 0,some 1]:=Fi
 have F1:(uk.map fun i=>σ.mem.get (pi[i]?.getD 0))=uk.map fun i=>(vX subs)[i]?.map (Ho pi i):=F1
 have F7:(dictAt σ.mem (DH pi 7)).map (·.2.1)=Az.map S:=F7
 have F8:(dictAt σ.mem (DH pi 8)).map (·.2.1)=Az.map S:=F8
 have F9:(dictAt σ.mem (DH pi 9)).map (·.2.1)=["U", "V"].map S:=F9
 have Ft:Kp 14 (vS σ.mem)=Xf:=Ft
 have Fc:(Option.rec false zk (σ.mem.get 0),(cellAt σ.mem).length)=(true,bif c then 1 else 0):=Fc
 have Ff:(pi.all (fun i=>Nat.blt i σ.mem.n)&&(vS σ.mem).all fun p=>vy p.2)=true:=Ff
 replace Ff:=(Bool.and_eq_true ..)▸Ff
 replace Fc:=(Prod.mk.injEq ..)▸Fc
 simp only [List.cons.injEq,and_true] at Fi
 refine aM Fi fun i0 i1=>?_;clear Fi
 have ip:∀{i:Nat},i<47->pi[i]?=some (DH pi i):=fun {i} h=>by unfold DH;refine aa (iV (by omega:i<pi.length)) ?_;rfl
 have i7:=ip (i:=7) (zd rfl)
 have i8:=ip (i:=8) (zd rfl)
 have i9:=ip (i:=9) (zd rfl)
 have jL:∀i∈pi,i<σ.mem.n:=fun i hi=>zd (pk Ff.1 i hi)
 have ne:∀{i:Nat} {x:Str} {r:List Str},(dictAt σ.mem i).map (·.2.1)=x::r->dictAt σ.mem i≠[]:=fun e q=>by replace e:=q▸e;exact zL e
 have g7:=sZ (ne (F7.trans rfl))
 have g8:=sZ (ne (F8.trans rfl))
 have g9:=sZ (ne (F9.trans rfl))
 have g1:=VA (m:=σ.mem) (fun q=>by replace Ft:=q▸Ft;exact zL Ft)
 refine R.qS _ _ g7 fun a7 l7 r7 s7 q=>mX q fun o7 k7 e7 d7 lo7 q7=>?_;clear q
 refine R.qS _ _ g8 fun a8 l8 r8 s8 q=>mX q fun o8 k8 e8 d8 lo8 q8=>?_;clear q
 refine R.qS _ _ g9 fun a9 l9 r9 s9 q=>mX q fun o9 k9 e9 d9 lo9 q9=>?_;clear q
 refine R.qS 1 _ g1 fun a1 l1 r1 s1 q=>BJ q fun o1 k1 z1 e1 d1 lo1 t1 c1 n1 q1=>?_;clear q
 refine ay (q1.fold Ff.2) fun gd v1 w1=>?_
 have len:∀{xs:List String} {es:bk} {kvs:List (Str×Value)},DR W es kvs->es.map (·.2.1)=xs.map S->(kvs.map (·.2)).length=xs.length:=fun q e=>by
  have:=congrArg List.length e
  replace this:=(List.length_map ..)▸this;replace this:=(List.length_map ..)▸this;replace this:=(q.length ..)▸this
  refine aa (List.length_map ..) ?_;exact this
 have L7:(k7.map (·.2)).length=7:=len q7 F7
 have L8:(k8.map (·.2)).length=7:=len q8 F8
 have L9:(k9.map (·.2)).length=2:=len q9 F9
 have Ld:gd.length=28:=by
  refine aa (Eq.symm v1.length) ?_
  have:=congrArg List.length Ft
  have h4:∀(tb:List (Nat×bk×Option Nat)) (b:Nat),(OH tb).length=4*(Kp b tb).length:=fun tb=>by
   induction tb with
   |nil=>intro _;rfl
   |cons p r ih=>intro b;show (OH r).length+1+1+1+1=4*((Kp (b+4) r).length+1);refine aa (ih (b+4)) ?_;omega
  refine aa (h4 _ 14) (aa this ?_);rfl
 have iP:∃(a0:Addr) (l0:List (Addr×Obj)) (gc:List Value),W.bg[0]?=some a0/\W.ls[0]?=some l0/\bE W (cellAt σ.mem) gc/\gc.length=(bif c then 1 else 0)/\∀{P:bA} {ae:Wd},(∀v,gc[0]?=some v->ae.gam[56]?=some v)->jD G.prog G.w P ae a0 (bif c then .cell (.d 56) else .cy) l0:=by
  generalize h0:σ.mem.get 0=bZ;induction bZ with
  |none=>replace Fc:=h0▸Fc;exact zT Fc.1
  |some o0=>
   refine R.qS 0 _ h0 fun a0 l0 x1 x2 x3=>?_
   induction o0 with
   |cell v=>
    have hc:cellAt σ.mem=[v]:=by unfold cellAt;exact aa h0 rfl
    refine dM x3 fun ob u b7 y1 y2=>?_;clear x3;subst b7
    replace Fc:=hc▸Fc
    induction c with
    |false=>exact nomatch Fc.2
    |true=>exact ⟨a0,_,[u],x1,x2,by refine aa hc ?_;exact ⟨y2,trivial⟩,rfl,fun {P ae} q=>⟨ob,u,rfl,y1,q u rfl⟩⟩
   |cy=>
    have hc:cellAt σ.mem=[]:=by unfold cellAt;exact aa h0 rfl
    replace Fc:=hc▸Fc
    induction c with
    |true=>exact nomatch Fc.2
    |false=>exact ⟨a0,l0,[],x1,x2,by refine aa hc ?_;trivial,rfl,fun {P ae} _=>x3⟩
   |_=>replace Fc:=h0▸Fc;exact zT Fc.1
 refine wg iP fun a0 l0 gc r0 s0 v0 L0 w0=>?_;clear iP
 have hL:(k7.map (·.2)++(k8.map (·.2)++(gd++k9.map (·.2)))).length=44:=by
  exact aa List.length_append (aa List.length_append (aa List.length_append (aa L7 (aa L8 (aa L9 (aa Ld rfl))))))
 refine ⟨_,gc,hL,q7.vals.append (q8.vals.append (v1.append q9.vals)),v0,L0,?_⟩
 intro g P I loc hg hg0 Er hc hl hd
 have p:=Fo W NZ (fun i hi=>by refine aa R.n2 ?_;exact jL i hi) g fz
 have tk:∀{i j:Nat} {v:Addr},pi[i]?=some j->W.bg[j]?=some v->(W.cut pi g).bg[i]?=some v:=fun e x=>by
  show (pi.map _)[_]?=_
  refine aa (List.getElem?_map ..) (aa (e ..) (aa (Option.map_some ..) (aa (x ..) ?_)));rfl
 have tl:∀{i j:Nat} {v:List (Addr×Obj)},pi[i]?=some j->W.ls[j]?=some v->(W.cut pi g).ls[i]?=some v:=fun e x=>by
  show (pi.map _)[_]?=_
  refine aa (List.getElem?_map ..) (aa (e ..) (aa (Option.map_some ..) ?_))
  unfold u9;refine aa x ?_;rfl
 refine ⟨R.fr,fun q hq=>R.nw q (p.mem_iff.mp hq),(p.map (·.1)).nodup_iff.mpr R.nd,Mem.of_ok _,?_,?_,rfl,fun i o e=>?_,hl,hd⟩
 ·show (pi.map _).length=(Mem.of (gy c subs ex)).n
  refine aa (DV ..) (aa (List.length_map ..) (aa (hp ..) ?_));unfold gy;exact aa (List.length_append ..) (aa (jy ..) rfl)
 ·show (pi.map _).length=(Mem.of (gy c subs ex)).n
  refine aa (DV ..) (aa (List.length_map ..) (aa (hp ..) ?_));unfold gy;exact aa (List.length_append ..) (aa (jy ..) rfl)
 ·have e':(br c subs++ex)[i]?=some o:=by refine aa (Eq.symm (of_get ..)) ?_;exact e
  by_cases h47:47<=i
  ·rw [List.getElem?_append_right (by rw [jy];exact h47),jy] at e'
   have hlen:i-47<ex.length:=(jN e').1
   have BS:pi[i]?=some pi[i]:=iV (by omega)
   have e2:=congrArg (fun l=>l[i-47]?) Fe
   simp only [List.getElem?_map,List.getElem?_drop,e',Option.map_some] at e2
   replace e2:=(show 47+(i-47)=i by omega)▸e2;replace e2:=(BS ..)▸e2;replace e2:=(Option.map_some ..)▸e2
   refine R.qS _ _ (aH e2) fun a l x1 x2 x3=>?_
   exact ⟨a,l,tk BS x1,tl BS x2,(jD.cut Er (by refine aa hp ?_;exact pk hex o (kW e')) x3).par hc⟩
  rw [List.getElem?_append_left (by rw [jy];omega)] at e'
  refine aM (Bz c subs i o e') fun hi q=>?_
  have BS:pi[i]?=some pi[i]:=iV (by omega)
  rcases q with ⟨q,e'⟩ | ⟨rfl,rfl⟩ | ⟨rfl,rfl⟩ | ⟨rfl,rfl⟩ | ⟨rfl,rfl⟩ | ⟨rfl,rfl⟩ | rfl
  ·have e2:=aw F1 i q
   replace e2:=(BS ..)▸e2;replace e2:=(e' ..)▸e2;replace e2:=(Option.getD_some ..)▸e2;replace e2:=(Option.map_some ..)▸e2;replace e2:=(Hn e' ..)▸e2
   have e3:=aw (La subs) i q
   replace e3:=e'▸e3
   refine R.qS _ _ e2 fun a l x1 x2 x3=>?_;clear e2
   exact ⟨a,l,tk BS x1,tl BS x2,(jD.cut Er (by refine aa hp ?_;exact Ar (by omega) (aH e3)) x3).par hc⟩
  ·refine ⟨a0,l0,tk i0 r0,tl i0 s0,w0 fun v x=>hg0 v x⟩
  ·refine ⟨a1,l1,tk i1 r1,tl i1 s1,o1,k1,z1,e1,d1,lo1,by decide,fun s hs=>?_,?_,?_⟩
   ·have:=c1 s hs
    rw [jr] at this ⊢
    refine aa (Eq.symm Ft) (aa oj ?_);exact this
   ·refine aa (Eq.symm Ft) (aa oj ?_);exact n1
   ·refine aa (Eq.symm Ft) ?_
    exact w1 fun j v x=>by
     show g[14+j]?=_
     refine aa (show 14+j=7+(7+j) by omega) ?_
     exact hg _ _ (iC L7 (iC L8 (ig x)))
  ·refine ⟨a7,l7,tk i7 r7,tl i7 s7,o7,k7,e7,d7,lo7,?_⟩
   refine aa (Eq.symm F7) ?_
   exact q7.fold fun j v x=>by
    show g[0+j]?=_
    refine aa (Nat.zero_add ..) ?_
    exact hg _ _ (ig (by refine aa List.getElem?_map (aa x ?_);rfl))
  ·refine ⟨a8,l8,tk i8 r8,tl i8 s8,o8,k8,e8,d8,lo8,?_⟩
   refine aa (Eq.symm F8) ?_
   exact q8.fold fun j v x=>by
    show g[7+j]?=_
    exact hg _ _ (iC L7 (ig (by refine aa List.getElem?_map (aa x ?_);rfl)))
  ·refine ⟨a9,l9,tk i9 r9,tl i9 s9,o9,k9,e9,d9,lo9,?_⟩
   refine aa (Eq.symm F9) ?_
   exact q9.fold fun j v x=>by
    show g[42+j]?=_
    refine aa (show 42+j=7+(7+(28+j)) by omega) ?_
    exact hg _ _ (iC L7 (iC L8 (iC Ld (by refine aa List.getElem?_map (aa x ?_);rfl))))
  ·have hm:pi[i]<σ.mem.n:=jL _ (List.getElem_mem (by omega))
   have h1:pi[i]<W.bg.length:=by refine aa R.n1 ?_;exact hm
   have h2:pi[i]<W.ls.length:=by refine aa R.n2 ?_;exact hm
   exact ⟨_,_,tk BS (iV h1),tl BS (iV h2),trivial⟩
inductive Tx where
 |r | s | u | v
inductive Mk where
 |e | h | g
inductive Res where
 |none | t (x:Tx) | d (k:Int) | m (x:Mk)
noncomputable def Tx.s':Tx->Str
 | .r=>S "r" | .s=>S "s" | .u=>S "u" | .v=>S "v"
noncomputable def Mk.s':Mk->Str
 | .e=>S "" | .h=>S "h" | .g=>S "g"
noncomputable def NS(k:Int):PV:= .dict (.ent (S "k") (.int k) (.ent (S "of") (.str (S "t")) .nil))
noncomputable def Res.eA:Res->PV
 | .none=> .none
 | .t x=> .tup (.cons (.str (S "text")) (.cons (.str x.s') .nil))
 | .d k=>NS k
 | .m x=> .str x.s'
noncomputable def Res.st:Res->PV
 | .none=> .none
 | .t x=> .str x.s'
 | .d k=>NS k
 | .m x=> .str x.s'
noncomputable def Res.eq:Res->Res->Bool
 | .none, .none=>true
 | .t x, .t y=>x.s'==y.s'
 | .d k, .d l=>k==l
 | .m x, .m y=>x.s'==y.s'
 |_,_=>false
theorem OD(x:Tx)(y:Mk):(x.s'==y.s')=false:=by induction x<;>induction y<;>decide +kernel
theorem Uv(x:Mk)(y:Tx):(x.s'==y.s')=false:=by induction x<;>induction y<;>decide +kernel
theorem V8(h:b=true):(a&&b)=a:=by exact aa (h ..) (aa (Bool.and_true ..) rfl)
theorem DD(k l:Int):gG (NS k) (NS l)=(k==l):=Eq.trans (b:=(k==l)&&true) (by kernel_rfl) (V8 rfl)
theorem Res.kh(a b:Res):gG a.st b.st=a.eq b:=by
 induction a<;>induction b<;>first | rfl | exact OD _ _ | exact Uv _ _ | exact DD _ _
theorem OB(x y:Str):gG (.tup (.cons (.str (S "text")) (.cons (.str x) .nil))) (.tup (.cons (.str (S "text")) (.cons (.str y) .nil)))=(x==y):=Eq.trans (b:=(S "text" == S "text")&&((x==y)&&true)) rfl (by exact aa (beq_self_eq_true ..) (aa (Bool.true_and ..) (aa (Bool.and_true ..) rfl)))
theorem Res.gq(a b:Res):gG a.eA b.eA=a.eq b:=by
 induction a<;>induction b<;>first | rfl | exact DD _ _ | exact OB _ _
theorem Res.eq_comm(a b:Res):a.eq b=b.eq a:=by
 induction a<;>induction b<;>first | rfl | exact Bool.beq_comm | exact BEq.comm
theorem DC(k l:Int):kS (NS k) (NS l)=true:=by kernel_rfl
theorem Res.qR(a b:Res):kS a.st b.st=true:=by
 induction a<;>induction b<;>first | exact DC _ _ | rfl
theorem Res.sD(a b:Res):kS a.eA b.eA=true:=by
 induction a<;>induction b<;>first | exact DC _ _ | rfl
theorem Res.ta(a:Res):jW a.st<=1:=by induction a<;>first | exact Nat.zero_le _ | exact Nat.le_refl _
theorem Res.nY(a:Res):jW a.eA<=1:=by induction a<;>first | exact Nat.zero_le _ | exact Nat.le_refl _
structure Sb where
 a:Bool
 b:Bool
 c:Bool
noncomputable def Sb.l(x:Sb):List String:=(bif x.a then ["G:1"] else [])++((bif x.b then ["G:2"] else [])++(bif x.c then ["G:3"] else []))
structure Gr where
 x:Sb
 f:Nat->Res
noncomputable def Gr.bC(g:Gr):List String->PV
 | []=> .nil
 |s::r=> .cons (.tup (.cons (.str (S s)) (.cons (g.f (AA s)).eA .nil))) (g.bC r)
noncomputable def Gr.WG(g:Gr):List String->PV
 | []=> .nil
 |s::r=> .ent (S s) (g.f (AA s)).st (g.WG r)
noncomputable def Gr.eA(g:Gr):PV:= .list (g.bC g.x.l)
noncomputable def Gr.st(g:Gr):PV:= .dict (g.WG g.x.l)
noncomputable def Gr.eq(g h:Gr):Bool:=(g.x.a==h.x.a&&(g.x.b==h.x.b&&g.x.c==h.x.c))&&((!g.x.a||(g.f 1).eq (h.f 1))&&((!g.x.b||(g.f 2).eq (h.f 2))&&(!g.x.c||(g.f 3).eq (h.f 3))))
theorem nm1:AA "G:1" =1:=by decide +kernel
theorem nm2:AA "G:2" =2:=by decide +kernel
theorem nm3:AA "G:3" =3:=by decide +kernel
noncomputable def iS:List Sb:=[⟨true,true,true⟩,⟨true,true,false⟩,⟨true,false,true⟩,⟨true,false,false⟩,⟨false,true,true⟩,⟨false,true,false⟩,⟨false,false,true⟩,⟨false,false,false⟩]
theorem nK(x:Sb):x∈iS:=by
 obtain ⟨a,b,c⟩:=x
 induction a<;>induction b<;>cases c
 ·exact kW (i:=7) rfl
 ·exact kW (i:=6) rfl
 ·exact kW (i:=5) rfl
 ·exact kW (i:=4) rfl
 ·exact kW (i:=3) rfl
 ·exact kW (i:=2) rfl
 ·exact kW (i:=1) rfl
 ·exact kW (i:=0) rfl
theorem m8{F H:Sb->Sb->α}(h:(iS.map fun x=>iS.map fun y=>F x y)=iS.map fun x=>iS.map fun y=>H x y)(x y:Sb):F x y=H x y:=List.map_inj_left.mp (List.map_inj_left.mp h x (nK x)) y (nK y)
noncomputable def nB(b:Bool):Nat:=bif b then 1 else 0
noncomputable def nL(x:Sb):List Nat:=(bif x.a then [1] else [])++((bif x.b then [2] else [])++(bif x.c then [3] else []))
noncomputable def p3(p q r:Bool)(i:Nat):Bool:=Nat.rec p (fun i _=>Nat.rec q (fun _ _=>r) i) (i-1)
noncomputable def abR(p:Nat->Bool)(d:Bool)(i:Nat)(k:Bool):List Nat->Bool:=List.rec d fun j _ ih=>Bool.rec ih (p i&&k) (Nat.beq i j)
noncomputable def WH(p:Nat->Bool)(d:Bool)(l':List Nat):List Nat->Bool:=List.rec true fun i _ ih=>abR p d i ih l'
noncomputable def lwE(p:Nat->Bool):List Nat->List Nat->Bool:=List.rec (fun _=>true) fun i _ ih l'=>List.rec false (fun j q _=>(Nat.beq i j&&(p i&&true))&&ih q) l'
theorem OM(f g:Nat->Res):(iS.map fun x=>iS.map fun y=>gG (Gr.st ⟨x,f⟩) (Gr.st ⟨y,g⟩))=iS.map fun x=>iS.map fun y=>(Nat.beq (nL x).length (nL y).length&&WH (p3 (gG (f 1).st (g 1).st) (gG (f 2).st (g 2).st) (gG (f 3).st (g 3).st)) false (nL y) (nL x)):=by kernel_rfl
theorem Uz(f g:Nat->Res):(iS.map fun x=>iS.map fun y=>gG (Gr.eA ⟨x,f⟩) (Gr.eA ⟨y,g⟩))=iS.map fun x=>iS.map fun y=>(Nat.beq (nL x).length (nL y).length&&lwE (p3 (gG (f 1).eA (g 1).eA) (gG (f 2).eA (g 2).eA) (gG (f 3).eA (g 3).eA)) (nL x) (nL y)):=by kernel_rfl
theorem Pm(f g:Nat->Res):(iS.map fun x=>iS.map fun y=>kS (Gr.st ⟨x,f⟩) (Gr.st ⟨y,g⟩))=iS.map fun x=>iS.map fun y=>(!(Nat.beq (nL x).length (nL y).length)||WH (p3 (kS (f 1).st (g 1).st) (kS (f 2).st (g 2).st) (kS (f 3).st (g 3).st)) true (nL y) (nL x)):=by kernel_rfl
noncomputable def lwK(p:Nat->Nat->Bool):List Nat->List Nat->Bool:=List.rec (fun _=>true) fun i _ ih l'=>List.rec false (fun j q _=>(p i j&&true)&&ih q) l'
theorem LR(f g:Nat->Res):(iS.map fun x=>iS.map fun y=>kS (Gr.eA ⟨x,f⟩) (Gr.eA ⟨y,g⟩))=iS.map fun x=>iS.map fun y=>(!(Nat.beq (nL x).length (nL y).length)||lwK (fun i j=>kS (f i).eA (g j).eA) (nL x) (nL y)):=by kernel_rfl
noncomputable def eq3(x y:Sb)(p q r:Bool):Bool:=(x.a==y.a&&(x.b==y.b&&x.c==y.c))&&((!x.a||p)&&((!x.b||q)&&(!x.c||r)))
theorem Xz(p q r:Bool):(iS.map fun x=>iS.map fun y=>(Nat.beq (nL x).length (nL y).length&&WH (p3 p q r) false (nL y) (nL x)))=iS.map fun x=>iS.map fun y=>eq3 x y p q r:=by
 induction p<;>induction q<;>induction r<;>kernel_rfl
theorem abg(p q r:Bool):(iS.map fun x=>iS.map fun y=>(Nat.beq (nL x).length (nL y).length&&lwE (p3 p q r) (nL x) (nL y)))=iS.map fun x=>iS.map fun y=>eq3 x y p q r:=by
 induction p<;>induction q<;>induction r<;>kernel_rfl
theorem Ym:(iS.map fun x=>iS.map fun y=>(!(Nat.beq (nL x).length (nL y).length)||WH (p3 true true true) true (nL y) (nL x)))=iS.map fun _=>iS.map fun _=>true:=by kernel_rfl
theorem Pk:(iS.map fun x=>iS.map fun y=>(!(Nat.beq (nL x).length (nL y).length)||lwK (fun _ _=>true) (nL x) (nL y)))=iS.map fun _=>iS.map fun _=>true:=by kernel_rfl
theorem Gr.kh(g h:Gr):gG g.st h.st=g.eq h:=by
 refine ((m8 (OM g.f h.f) g.x h.x).trans (m8 (Xz _ _ _) g.x h.x)).trans ?_
 refine aa (Res.kh ..) (aa (Res.kh ..) (aa (Res.kh ..) ?_));rfl
theorem Gr.gq(g h:Gr):gG g.eA h.eA=g.eq h:=by
 refine ((m8 (Uz g.f h.f) g.x h.x).trans (m8 (abg _ _ _) g.x h.x)).trans ?_
 refine aa (Res.gq ..) (aa (Res.gq ..) (aa (Res.gq ..) ?_));rfl
theorem Gr.qR(g h:Gr):kS g.st h.st=true:=by
 refine (m8 (Pm g.f h.f) g.x h.x).trans ?_
 refine aa (Res.qR ..) (aa (Res.qR ..) (aa (Res.qR ..) ?_))
 exact m8 Ym g.x h.x
theorem Gr.sD(g h:Gr):kS g.eA h.eA=true:=by
 refine (m8 (LR g.f h.f) g.x h.x).trans ?_
 refine aa (show (fun i j=>kS (g.f i).eA (h.f j).eA)=fun _ _=>true from funext fun _=>funext fun _=>Res.sD _ _) ?_
 exact m8 Pk g.x h.x
theorem Gr.ta(g:Gr):jW g.st<=2:=by
 have h:∀l,jW (g.WG l)<=1:=fun l=>by
  induction l with
  |nil=>exact Nat.zero_le _
  |cons s r ih=>exact Nat.max_le.mpr ⟨Res.ta _,ih⟩
 exact Nat.succ_le_succ (h _)
theorem Gr.nY(g:Gr):jW g.eA<=3:=by
 have h:∀l,jW (g.bC l)<=2:=fun l=>by
  induction l with
  |nil=>exact Nat.zero_le _
  |cons s r ih=>exact Nat.max_le.mpr ⟨Nat.succ_le_succ (Nat.max_le.mpr ⟨Nat.zero_le _,Nat.max_le.mpr ⟨Res.nY _,Nat.zero_le _⟩⟩),ih⟩
 exact Nat.succ_le_succ (h _)
theorem jI:∀{l:List (Nat×Nat×α)},wo i j l=some r->(i,j,r)∈l
 | [],h=>zS h
 |(a,b,c)::l,h=>by
  have h':(Bool.rec (wo i j l) (some c) (Nat.beq a i&&Nat.beq b j):Option α)=some r:=h
  generalize q:(Nat.beq a i&&Nat.beq b j)=bZ;induction bZ with
  |true=>
   replace h':=q▸h'
   have gF:=aH h';clear h';clear h;subst gF
   replace q:=(Bool.and_eq_true ..)▸q
   refine aa (iL q.1) (aa (iL q.2) ?_)
   exact cg
  |false=>replace h':=q▸h';exact fw _ (jI h')
theorem DM(i j:Nat)(l:List (Nat×Nat×Bool)):uN i j l=wo i j l:=rfl
theorem LB:∀{x y:PV},w7 x y=true->x=y:=by
 intro x
 induction x with
 |none=>intro y h;induction y<;>first | rfl | exact zT h
 |int i=>intro y h;induction y<;>first | exact congrArg _ (of_decide_eq_true h) | exact zT h
 |str s=>intro y h;induction y<;>first | exact congrArg _ (code_inj (iL h)) | exact zT h
 |tup a ih=>intro y h;induction y<;>first | exact congrArg _ (ih h) | exact zT h
 |list a ih=>intro y h;induction y<;>first | exact congrArg _ (ih h) | exact zT h
 |dict a ih=>intro y h;induction y<;>first | exact congrArg _ (ih h) | exact zT h
 |nil=>intro y h;induction y<;>first | rfl | exact zT h
 |cons a r i1 i2=>
  intro y h
  induction y with
  |cons b q=>
   have h:(w7 a b&&w7 r q)=true:=h
   replace h:=(Bool.and_eq_true ..)▸h
   exact aa (i1 h.1) (aa (i2 h.2) rfl)
  |_=>exact zT h
 |ent k a r i1 i2=>
  intro y h
  induction y with
  |ent l b q=>
   have h:(sq k l&&(w7 a b&&w7 r q))=true:=h
   replace h:=(Bool.and_eq_true ..)▸h;replace h:=(Bool.and_eq_true ..)▸h
   exact aa (code_inj (iL h.1)) (aa (i1 h.2.1) (aa (i2 h.2.2) rfl))
  |_=>exact zT h
theorem uM:∀{l:List (Bool×Nat×PV×Bool)},DL c i x l=some b->(c,i,x,b)∈l
 | [],h=>zS h
 |(d,a,y,e)::l,h=>by
  have h':(Bool.rec (DL c i x l) (some e) (decide (d=c)&&(Nat.beq a i&&w7 y x)):Option Bool)=some b:=h
  generalize q:(decide (d=c)&&(Nat.beq a i&&w7 y x))=ir;induction ir with
  |true=>
   replace h':=q▸h'
   have gg:=aH h';clear h';clear h;subst gg
   replace q:=(Bool.and_eq_true ..)▸q;replace q:=(Bool.and_eq_true ..)▸q
   refine aa (of_decide_eq_true q.1) (aa (iL q.2.1) (aa (LB q.2.2) ?_))
   exact cg
  |false=>replace h':=q▸h';exact fw _ (uM h')
noncomputable def Pe:PV->Bool
 | .ent _ _ _=>true
 |_=>false
noncomputable def eQ(t:Tg)(x:PV):Prop:=match t with
 | .any=>True
 | .none=>x= .none
 | .str b=>∃s,x= .str s/\b=full s.cps.toList/\s.cps.toList.length<=900
 | .dict b=>∃l,x= .dict l/\Pe l=b
 | .tuple=>∃a r,x= .tup (.cons a r)
 | .int=>∃i,x= .int i
 | .nn=>x≠ .none
 | .nG=>x= .none\/x= .tup .nil
noncomputable def jb(x y:PV)(b:Bool):Prop:=kS x y=true/\jW x<=100/\gG x y=b
section
variable {pv:Nat->PV}
theorem Hu(i:Is prog w fx l (.d kvs)):(!kvs.isEmpty)=Pe l:=by
 induction l using PV.casesOn with
 |nil=>have q:kvs=[]:=i.inv;subst q;rfl
 |ent=>refine dM i.inv fun _ _ q _ _=>?_;subst q;rfl
 |_=>exact False.elim i.inv
theorem HC(i:Is prog w fx x (.v .none)):x= .none:=by
 have k:=i.kv
 induction x using PV.casesOn<;>first | rfl | exact zB k rfl
theorem Kq(q:eQ t x)(i:Is prog w fx x (.v v)):Wj prog w fx t v:=by
 induction t with
 |any=>trivial
 |none=>have q:x= .none:=q;subst q;exact i.inv
 |str b=>refine eN q fun s q h1 h2=>?_;subst q;refine aU i.inv fun t q=>?_;exact ⟨s,t,q,h1,h2⟩
 |dict b=>refine ay q fun l q h=>?_;subst q;refine eL i.inv fun a ob kvs q h1 h2 h3 h4 h5=>?_;exact ⟨a,ob,kvs,q,h1,h2,h3,(Hu h5).trans h,h4⟩
 |tuple=>
  refine BK q fun a r q=>?_;subst q
  refine gW i.inv fun a ob vs n q h1 h2 h3 h4 h5=>?_
  refine dM h5.inv fun _ _ e _ _=>?_;clear h5;subst e
  exact ⟨a,ob,_,n,q,h1,h2,h3,List.cons_ne_nil _ _,h4⟩
 |int=>refine aU q fun n q=>?_;subst q;refine aU i.inv fun t q=>?_;exact ⟨n,t,q⟩
 |nn=>
  intro z
  subst z
  exact q (HC i)
 |nG=>
  rcases q with q | q
  ·subst q;exact .inl i.inv
  ·subst q
   refine gW i.inv fun a ob vs n q h1 h2 h3 h4 h5=>?_
   have e:vs=[]:=h5.inv
   subst e
   exact .inr ⟨a,ob,n,q,h1,h2,h3⟩
theorem IsL.handed(i:Is prog w fx x (.v v)):handedIn v=true:=by
 have k:=i.kv
 clear i
 induction v using Value.casesOn<;>first | rfl | exact False.elim k
theorem jb.go(q:jb x y b)(i:Is prog w fx x (.v u))(j:Is prog w fx y (.v v)):Wt fx u v b:=by
 refine fK q fun h1 h2 h3=>?_;clear q
 refine aa (Eq.symm h3) ?_;exact i.eqr j h1 h2
noncomputable def DsF(fx:List (Addr×Obj))(gam:List Value)(i n j:Nat):Prop:=∀v,gam[i]?=some v->∃a ob vs k u,v= .ref a/\(a,ob)∈fx/\ob.cls= .type "tuple" /\ob.data= .seq (List.toArray vs) k/\vs.length<=900/\vs[n]?=some u/\gam[j]?=some u
noncomputable def DgF(prog:Program)(w:PySem.World)(fx:List (Addr×Obj))(gam:List Value)(i:Nat)(x:Str)(j:Nat):Prop:=∀v,gam[i]?=some v->∃a ob kvs u,v= .ref a/\(a,ob)∈fx/\ob.IsDictOf (strKind prog w) kvs/\(a==sysModules)=false/\valueAt kvs x=some u/\gam[j]?=some u
theorem xR(ie:∀i v,W.gam[i]?=some v->Is G.prog G.w W.fx (pv i) (.v v))(ht:∀i,eQ (bN G.P i) (pv i))(he:∀p∈G.P.eqs,jb (pv p.1) (pv p.2.1) p.2.2)
  (hc:∀p∈G.P.jO,∃x,p.2.1=code x/\jb (pv p.1) (.str x) p.2.2) (hi:∀i x,G.I i=some x->pv i= .int x) (U6:∀p∈G.P.dg,∃x,p.2.1=code x/\((∃j,p.2.2=some j/\DgF G.prog G.w W.fx W.gam p.1 x j)\/(p.2.2=none/\∃l,pv p.1= .dict l/\fI x l=none))) (hds:∀p∈G.P.ds,DsF W.fx W.gam p.1 p.2.1 p.2.2)
  (hg:∀p∈G.P.pT,jb (bif p.1 then cC pv p.2.2.1 else pv p.2.1) (bif p.1 then pv p.2.1 else cC pv p.2.2.1) p.2.2.2):DatAll G W where
 tag:=fun i v e=>Kq (ht i) (ie i v e)
 eq:=fun i j u v b e1 e2 e3=>jb.go (he (i,j,b) (jI (DM i j _▸e3))) (ie i u e1) (ie j v e2)
 int:=fun i v x e h=>by
  have:=ie i v e
  exact IsL.inv ((hi i x h)▸this)
 hd:=fun i v e=>(ie i v e).handed
 jO:=fun i x u b t e1 e2=>by
  refine ay (hc (i,code x,b) (jI e2)) fun y h0 h1=>?_
  cases code_inj (show code x=code y from h0)
  exact jb.go h1 (ie i u e1) .str
 dg:=fun i x r e v hv=>by
  refine ay (U6 _ (jI e)) fun y h0 h1=>?_
  cases code_inj (show code x=code y from h0)
  rcases h1 with ⟨j,h1,h2⟩ | ⟨h1,l,h2,h3⟩
  ·have h1:r=some j:=h1
   subst h1
   refine gW (h2 v hv) fun a ob kvs u q1 q2 q3 q4 q5 q6=>?_
   exact ⟨a,ob,kvs,q1,q2,q3,q4,by refine aa q5 ?_;exact q6⟩
  ·have h1:r=none:=h1
   subst h1
   have hi:=ie i v hv
   replace hi:=h2▸hi
   refine eL hi.inv fun a ob kvs e h4 h5 h6 _ q=>?_
   have:=q.look x
   replace this:=h3▸this
   exact ⟨a,ob,kvs,e,h4,h5,h6,aa this trivial⟩
 ds:=fun i n j e v hv=>hds _ (jI e) v hv
 pT:=fun c i x b hk e u v BW e1 hf h=>by
  have q:=hg (c,i,x,b) (uM e)
  have i1:=(ie i u e1).mono hf fun _ _ q=>q
  have i2:Is G.prog G.w BW (cC pv x) (.v v):=h.sub (fun _ q=>q) fun n v _ q=>(ie n v q).mono hf fun _ _ q=>q
  induction c with
  |true=>exact jb.go q i2 i1
  |false=>exact jb.go q i1 i2
noncomputable def LF:Nat->PV->Option PV
 | 0, .cons a _=>some a
 |n+1, .cons _ r=>LF n r
 |_,_=>none
theorem IsL.bY:∀{x:PV} {vs:List Value},Is prog w fx x (.l vs)->∀{n:Nat} {y:PV},LF n x=some y->∃u,vs[n]?=some u/\Is prog w fx y (.v u):=by
 intro x
 induction x with
 |cons _ _ _ ih=>
  intro vs i n y hn
  refine dM i.inv fun v r q h1 h2=>?_;clear i;subst q
  induction n using Nat.casesOn with
  |zero=>have q:=aH hn;clear hn;subst q;exact ⟨v,rfl,h1⟩
  |succ n=>exact ih h2 hn
 |_=>intro vs i n y hn;induction n using Nat.casesOn<;>exact zS hn
inductive WA where
 |xj | tup (i n:Nat) | dict (i:Nat) (x:Str)
noncomputable def p4(pv:Nat->PV)(N:Nat):WA->Prop
 | .xj=>pv N= .none
 | .tup i n=>i<N/\∃l,pv i= .tup l/\LF n l=some (pv N)
 | .dict i x=>i<N/\∃l,pv i= .dict l/\fI x l=some (pv N)
noncomputable def FX(prog:Program)(w:PySem.World)(fx:List (Addr×Obj))(gam:List Value)(N:Nat):WA->Prop
 | .xj=>True
 | .tup i n=>DsF fx gam i n N
 | .dict i x=>DgF prog w fx gam i x N
theorem vi(ie:∀i v,gam[i]?=some v->Is prog w fx (pv i) (.v v))(h:Is prog w fx (pv gam.length) (.v u)):∀i v,(gam ++ [u])[i]?=some v->Is prog w fx (pv i) (.v v):=fun i v e=>by
 by_cases hi:i<gam.length
 ·replace e:=(List.getElem?_append_left hi)▸e;exact ie i v e
 ·replace e:=(List.getElem?_append_right (Nat.not_lt.mp hi))▸e
  have hz:i=gam.length:=by
   have:=(jN e).1
   simp only [List.length_cons,List.length_nil] at this;omega
  subst hz
  replace e:=(Nat.sub_self ..)▸e
  have cW:=aH e;clear e;subst cW;exact h
theorem ac3(ie:∀i v,gam[i]?=some v->Is prog w fx (pv i) (.v v))(h:p4 pv gam.length d):∃u,Is prog w fx (pv gam.length) (.v u)/\∀g,FX prog w fx (gam++(u::g)) gam.length d:=by
 have at0:∀(u:Value) g,(gam++(u::g))[gam.length]?=some u:=fun u g=>by refine aa (List.getElem?_append_right (Nat.le_refl _) ..) (aa (Nat.sub_self ..) ?_);rfl
 induction d with
 |xj=>
  have h:pv gam.length= .none:=h
  exact ⟨.none,by refine aa h ?_;exact .none,fun _=>trivial⟩
 |tup i n=>
  obtain ⟨hi,l,e1,e2⟩:=h
  have hv:=ie i _ (iV hi)
  replace hv:=e1▸hv
  refine gW hv.inv fun a ob vs k hvv h1 h2 h3 h4 h5=>?_
  refine ay (h5.bY e2) fun u q1 q2=>?_
  refine ⟨u,q2,fun g v e=>?_⟩
  replace e:=(List.getElem?_append_left hi)▸e;replace e:=(iV hi)▸e
  exact ⟨a,ob,vs,k,u,(aH e).symm.trans hvv,h1,h2,h3,h4,q1,at0 u g⟩
 |dict i x=>
  obtain ⟨hi,l,e1,e2⟩:=h
  have hv:=ie i _ (iV hi)
  replace hv:=e1▸hv
  refine eL hv.inv fun a ob kvs hvv h1 h2 h3 h4 h5=>?_
  have q:=h5.look x
  replace q:=e2▸q
  refine ay q fun u q1 q2=>?_;clear q
  refine ⟨u,q2,fun g v e=>?_⟩
  replace e:=(List.getElem?_append_left hi)▸e;replace e:=(iV hi)▸e
  exact ⟨a,ob,kvs,u,(aH e).symm.trans hvv,h1,h2,h3,q1,at0 u g⟩
theorem exts:∀(ds:List WA) (gam:List Value),(∀i v,gam[i]?=some v->Is prog w fx (pv i) (.v v))->(∀k d,ds[k]?=some d->p4 pv (gam.length+k) d)->
  ∃g,g.length=ds.length/\(∀i v,(gam++g)[i]?=some v->Is prog w fx (pv i) (.v v))/\∀k d,ds[k]?=some d->∀g',FX prog w fx ((gam++g)++g') (gam.length+k) d
 | [],gam,ie,_=>⟨[],rfl,by refine aa (List.append_nil ..) ?_;exact ie,fun k d e=>by simp at e⟩
 |d::ds,gam,ie,h=>by
  refine ay (ac3 ie (h 0 d rfl)) fun u h1 h2=>?_
  obtain ⟨g,h3,h4,h5⟩:=exts ds (gam ++ [u]) (vi ie h1) fun k d e=>by
   refine aa (List.length_append ..) (aa (List.length_singleton ..) (aa (Nat.add_assoc ..) (aa (Nat.add_comm 1 ..) ?_)))
   exact h (k+1) d e
  refine ⟨u::g,congrArg (· + 1) h3,by replace h4:=(eP ..)▸h4;exact h4,fun k d' e g'=>?_⟩
  induction k using Nat.casesOn with
  |zero=>have cZ:=aH e;clear e;subst cZ;refine aa (eP ..) (aa (List.cons_append ..) ?_);exact h2 _
  |succ k=>
   have:=h5 k d' e g'
   replace this:=(List.length_append ..)▸this;replace this:=(List.length_singleton ..)▸this;replace this:=(Nat.add_assoc ..)▸this;replace this:=(Nat.add_comm 1 ..)▸this;replace this:=(eP gam [u] ..)▸this
   exact this
end
structure Rec where
 res:Nat->Res
 val:Nat->Option Int
 kU:Option (Res×Gr)
 kV:Option (Res×Res)
 x:Sb
 q:Int
structure Rec.Ok(r:Rec):Prop where
 u:r.res 5= .none<->r.kU=none
 v:r.res 6= .none<->r.kV=none
 um:∀m g,r.kU=some (m,g)->m≠ .none
 vm:∀u m,r.kV=some (u,m)->u≠ .none/\m≠ .none
 vn:∀k,r.res k= .none->r.val k=none
 vu:∀p,r.kU=some p->∃n,r.val 5=some n
 vv:∀p,r.kV=some p->∃n,r.val 6=some n
noncomputable def ku:Option Int->PV
 |some n=> .dict (.ent (S "n") (.int n) .nil)
 |none=> .dict .nil
noncomputable def j9(x:String)(a:PV):PV:= .tup (.cons (.str (S x)) (.cons a .nil))
noncomputable def kUP:Option (Res×Gr)->PV
 |some (m,g)=> .tup (.cons (j9 "M" m.eA) (.cons (j9 "G" g.eA) .nil))
 |none=> .none
noncomputable def kVP:Option (Res×Res)->PV
 |some (u,m)=> .tup (.cons (j9 "U" u.eA) (.cons (j9 "M" m.eA) .nil))
 |none=> .none
noncomputable def Gu(n:Int):Option (Res×Gr)->PV
 |some (m,g)=> .dict (.ent (S "n") (.int n) (.ent (S "_result:M") m.st (.ent (S "_result:G") g.st .nil)))
 |none=> .none
noncomputable def Gs(n:Int):Option (Res×Res)->PV
 |some (u,m)=> .dict (.ent (S "n") (.int n) (.ent (S "_result:U") u.st (.ent (S "_result:M") m.st .nil)))
 |none=> .none
noncomputable def Rec.vals(r:Rec):Nat->PV
 | 5=>Gu ((r.val 5).getD 0) r.kU
 | 6=>Gs ((r.val 6).getD 0) r.kV
 |k=>ku (r.val k)
noncomputable def Rec.l5(r:Rec)(k j:Nat):PV:=match r.res k with
 | .none=> .none
 |a=>match j with
  | 0=>a.st
  | 1=>r.vals k
  | 2=> .str (S "MD5Checker")
  |_=> .tup .nil
noncomputable def adb:Option (Res×Gr)->List PV
 |some (m,g)=>[j9 "M" m.eA,j9 "G" g.eA,m.eA,g.eA]
 |none=>[.none, .none, .none, .none]
noncomputable def ada:Option (Res×Res)->List PV
 |some (u,m)=>[j9 "U" u.eA,j9 "M" m.eA,u.eA,m.eA]
 |none=>[.none, .none, .none, .none]
noncomputable def ade(r:Rec):List PV:=(match r.kU with
 |some (m,g)=>[m.st,g.st]
 |none=>[.none, .none])++(match r.kV with
 |some (u,m)=>[u.st,m.st]
 |none=>[.none, .none])
noncomputable def iU(r:Rec):List PV:=(List.range 7).map (fun k=>(r.res k).eA)++((List.range 7).map (fun k=>ku (r.val k))++((List.range 28).map (fun n=>r.l5 (n/4) (n%4)) ++ [kUP r.kU,kVP r.kV]))
noncomputable def pvL(r:Rec):List PV:=iU r++(adb r.kU++(ada r.kV++ade r))
noncomputable def aW(r:Rec)(J:Nat->Int)(i:Nat):PV:=if i<56 then (pvL r)[i]?.getD .none else .int (J i)
noncomputable def ec(J:Nat->Int)(i:Nat):Option Int:=if 56<=i then some (J i) else none
noncomputable def s6(r:Rec):List WA:=(match r.kU with
 |some _=>[.tup 42 0, .tup 42 1, .tup 44 1, .tup 45 1]
 |none=>[.xj, .xj, .xj, .xj])++((match r.kV with
 |some _=>[.tup 43 0, .tup 43 1, .tup 48 1, .tup 49 1]
 |none=>[.xj, .xj, .xj, .xj])++((match r.kU with
 |some _=>[.dict 35 (S "_result:M"), .dict 35 (S "_result:G")]
 |none=>[.xj, .xj])++(match r.kV with
 |some _=>[.dict 39 (S "_result:U"), .dict 39 (S "_result:M")]
 |none=>[.xj, .xj])))
theorem Fg(r:Rec):(s6 r).length=12:=by
 unfold s6
 cases r.kU<;>cases r.kV<;>rfl
theorem L5:¬ S "n" =S "_result:M" :=by decide +kernel
theorem abf:¬ S "n" =S "_result:G" :=by decide +kernel
theorem Us:¬ S "n" =S "_result:U" :=by decide +kernel
theorem O6:¬ S "_result:M" =S "_result:G" :=by decide +kernel
theorem IX:¬ S "_result:U" =S "_result:M" :=by decide +kernel
theorem cR{r:Rec}(h:r.res k≠ .none):r.l5 k (j+1)=(match j with | 0=>r.vals k | 1=> .str (S "MD5Checker") | _=> .tup .nil):=by
 unfold Rec.l5
 generalize q:r.res k=bZ;induction bZ with
 |none=>exact absurd q h
 |_=>induction j using Nat.casesOn with
  |zero=>rfl
  |succ j=>induction j using Nat.casesOn<;>rfl
theorem sx(h:¬ n=k):fI k (.ent n a (.ent k b r))=some b:=(if_neg h).trans (if_pos rfl)
theorem w8(h:¬ n=k)(g:¬ m=k):fI k (.ent n a (.ent m b (.ent k c r)))=some c:=(if_neg h).trans (sx g)
noncomputable def IG{α:Type}(P:Nat->α->Prop)(l:List α):Nat->Prop:=List.rec (fun _=>True) (fun d _ ih n=>P n d/\ih (n+1)) l
theorem IG.at:∀{l:List α} {n:Nat},IG P l n->∀k d,l[k]?=some d->P (n+k) d
 | [],_,_,_,_,e=>zS e
 |a::l,n,h,0,d,e=>aH e▸h.1
 |a::l,n,h,k+1,d,e=>(Nat.succ_add_eq_add_succ n k)▸IG.at (l:=l) h.2 k d e
theorem M8{r:Rec}(ok:r.Ok)(J:Nat->Int):∀k d,(s6 r)[k]?=some d->p4 (aW r J) (44+k) d:=by
 obtain ⟨res,val,kU,kV,x,q⟩:=r
 have hu:∀m g,kU=some (m,g)->aW ⟨res,val,kU,kV,x,q⟩ J 35=Gu ((val 5).getD 0) kU:=fun m g e=>by
  show Rec.l5 _ 5 1=_
  exact cR (j:=0) fun h=>(nomatch e.symm.trans (ok.u.mp h))
 have hv:∀u m,kV=some (u,m)->aW ⟨res,val,kU,kV,x,q⟩ J 39=Gs ((val 6).getD 0) kV:=fun m g e=>by
  show Rec.l5 _ 6 1=_
  exact cR (j:=0) fun h=>(nomatch e.symm.trans (ok.v.mp h))
 clear ok
 refine IG.at (l:=s6 ⟨res,val,kU,kV,x,q⟩) (n:=44) ?_
 induction kU with
 |none=>
  induction kV with
  |none=>exact ⟨rfl,rfl,rfl,rfl,rfl,rfl,rfl,rfl,rfl,rfl,rfl,rfl,trivial⟩
  |some p=>
   obtain ⟨u,mm⟩:=p
   exact ⟨rfl,rfl,rfl,rfl,⟨zd rfl,_,rfl,rfl⟩,⟨zd rfl,_,rfl,rfl⟩,⟨zd rfl,_,rfl,rfl⟩,⟨zd rfl,_,rfl,rfl⟩,rfl,rfl,
    ⟨zd rfl,_,hv u mm rfl,sx Us⟩,⟨zd rfl,_,hv u mm rfl,w8 L5 IX⟩,trivial⟩
 |some p=>
  obtain ⟨m,g⟩:=p
  have a8:p4 (aW ⟨res,val,some (m,g),kV,x,q⟩ J) 52 (.dict 35 (S "_result:M")):=⟨zd rfl,_,hu m g rfl,(sx L5).trans (by induction kV<;>rfl)⟩
  have a9:p4 (aW ⟨res,val,some (m,g),kV,x,q⟩ J) 53 (.dict 35 (S "_result:G")):=⟨zd rfl,_,hu m g rfl,(w8 abf O6).trans (by induction kV<;>rfl)⟩
  clear hu
  induction kV with
  |none=>exact ⟨⟨zd rfl,_,rfl,rfl⟩,⟨zd rfl,_,rfl,rfl⟩,⟨zd rfl,_,rfl,rfl⟩,⟨zd rfl,_,rfl,rfl⟩,rfl,rfl,rfl,rfl,a8,a9,rfl,rfl,trivial⟩
  |some p=>
   obtain ⟨u,mm⟩:=p
   exact ⟨⟨zd rfl,_,rfl,rfl⟩,⟨zd rfl,_,rfl,rfl⟩,⟨zd rfl,_,rfl,rfl⟩,⟨zd rfl,_,rfl,rfl⟩,⟨zd rfl,_,rfl,rfl⟩,⟨zd rfl,_,rfl,rfl⟩,⟨zd rfl,_,rfl,rfl⟩,⟨zd rfl,_,rfl,rfl⟩,a8,a9,
    ⟨zd rfl,_,hv u mm rfl,sx Us⟩,⟨zd rfl,_,hv u mm rfl,w8 L5 IX⟩,trivial⟩
noncomputable def J0(r:Rec)(xs:List Int):Nat->Int:=fun n=>((r.q::xs)[n-56]?).getD 0
theorem Ws(r:Rec)(h:xs[k]?=some y):J0 r xs (57+k)=y:=by
 unfold J0
 refine aa (show 57+k-56=k+1 by omega) (aa List.getElem?_cons_succ (aa h ?_));rfl
structure cF(G:Gx)(T:At)(n:Nat)(sc:List (Str×NameKind))(r:Rec)(c:Bool)(ex:List AO)(xs:List Int)(m:Str->Option Value)(h:Heap)(loc:aL)(W:Wd):Prop where
 rep:T.Rep (G.at aR o6) h m W ⟨loc,Mem.of (gy c r.x.l ex),57+xs.length⟩
 ie:∀i v,W.gam[i]?=some v->Is G.prog G.w W.fx (aW r (J0 r xs) i) (.v v)
 Gh:∀k d,(s6 r)[k]?=some d->∀g,FX G.prog G.w W.fx (W.gam++g) (44+k) d
 ok:r.Ok
 gH:T.Ok G n (.fn sc) W
 Bx:∀x i,ah x T.cx.cells=some i->i=0
noncomputable abbrev Inv(G:Gx)(T:At)(n:Nat)(sc:List (Str×NameKind))(r:Rec)(c:Bool)(m:Str->Option Value)(h:Heap)(loc:aL)(W:Wd):Prop:=cF G T n sc r c [] [] m h loc W
structure JS(r:Rec)(J:Nat->Int)(P:bA):Prop where
 cls:P.cls=di
 ht:∀i,eQ (bN P i) (aW r J i)
 he:∀p∈P.eqs,jb (aW r J p.1) (aW r J p.2.1) p.2.2
 hc:∀p∈P.jO,∃x,p.2.1=code x/\jb (aW r J p.1) (.str x) p.2.2
 U6:∀p∈P.dg,∃k x,(s6 r)[k]?=some (.dict p.1 x)/\p.2.1=code x/\p.2.2=some (44+k)
 hds:∀p∈P.ds,∃k,(s6 r)[k]?=some (.tup p.1 p.2.1)/\p.2.2=44+k
 hg:∀p∈P.pT,jb (bif p.1 then cC (aW r J) p.2.2.1 else aW r J p.2.1) (bif p.1 then aW r J p.2.1 else cC (aW r J) p.2.2.1) p.2.2.2
noncomputable def Wd.ext(W:Wd)(g:List Value):Wd:=⟨W.bg,W.ls,W.fx,W.gam++g,W.eta⟩
theorem Wd.cp(W:Wd)(g:List Value):W.le (W.ext g):=⟨List.prefix_refl _,fun _ h=>h,List.prefix_append _ _,rfl⟩
theorem Rep.tab{G:Gx}(R:Rep (G.at P I) h₀ L fz h m W σ){loc:aL}(hc:P'.cls=P.cls)(hl:cv (W.ext g) m loc)(hd:DatAll (G.at P' I') (W.ext g)):Rep (G.at P' I') h₀ L fz h m (W.ext g) ⟨loc,σ.mem,σ.nd+g.length⟩:=
 ⟨R.fr,R.nw,R.nd,R.mem,R.n1,R.n2,by show (W.gam++g).length=_;exact aa List.length_append (aa R.n3 rfl),fun i o e=>let ⟨a,l,e1,e2,e3⟩:=R.ob i o e;⟨a,l,e1,e2,(jD.par hc e3).mono (W.cp g)⟩,hl,hd⟩
noncomputable def cP(p:Int×Tok):Value:= .int p.1 p.2
section
theorem cF.enter(inv:cF G T n sc r c ex xs m h loc W)(tab:JS r J P)(hJ:J 56=r.q)(hx:∀k y,xs[k]?=some y->J (57+k)=y){qs:List (Int×Tok)}(hq:∀k p,qs[k]?=some p->J (57+xs.length+k)=p.1)(hl:cv (W.ext (qs.map cP)) m loc'):
  T.Rep (G.at P (ec J)) h m (W.ext (qs.map cP)) ⟨loc',Mem.of (gy c r.x.l ex),57+xs.length+(qs.map cP).length⟩:=by
 have n3:W.gam.length=57+xs.length:=inv.rep.n3
 have ie:∀i v,(W.ext (qs.map cP)).gam[i]?=some v->Is G.prog G.w W.fx (aW r J i) (.v v):=fun i v e=>by
  have e:(W.gam++qs.map cP)[i]?=some v:=e
  by_cases hi:i<57+xs.length
  ·rw [List.getElem?_append_left (by omega)] at e
   have:=inv.ie i v e
   unfold aW at this ⊢
   by_cases q:i<56
   ·rw [if_pos q] at this ⊢;exact this
   ·rw [if_neg q] at this ⊢
    have e2:J0 r xs i=J i:=by
     by_cases z:i=56
     ·refine aa z (aa hJ ?_);rfl
     ·obtain ⟨y,hy⟩:∃y,xs[i-57]?=some y:=⟨_,iV (by omega)⟩
      have a:=hx _ y hy
      have b:=Ws r hy
      replace a:=(show 57+(i-57)=i by omega)▸a;replace b:=(show 57+(i-57)=i by omega)▸b
      exact aa a (aa b rfl)
    refine aa (Eq.symm e2) ?_;exact this
  ·rw [List.getElem?_append_right (by omega),List.getElem?_map] at e
   refine ay (Option.map_eq_some_iff.mp e) fun p e1 b7=>?_;clear e;subst b7
   have:=hq _ _ e1
   unfold aW
   refine aa (if_neg (by omega)) ?_
   replace this:=n3▸this;replace this:=(show 57+xs.length+(i-(57+xs.length))=i by omega)▸this
   refine aa this ?_
   exact .int ⟨p.2,rfl⟩
 refine inv.rep.tab (P':=P) (I':=ec J) tab.cls hl (xR (pv:=aW r J) ie tab.ht tab.he tab.hc (fun i x e=>?_) (fun p hp=>?_) (fun p hp=>?_) tab.hg)
 ·have e:(if 56<=i then some (J i) else none)=some x:=e
  split at e
  ·rename_i q;have eD:=aH e;clear e;clear e;subst eD;unfold aW;exact aa (if_neg (by omega)) rfl
  ·exact zS e
 ·refine dM (tab.U6 p hp) fun k x e1 e2 e3=>?_
  exact ⟨x,e2, .inl ⟨44+k,e3,inv.Gh k _ e1 _⟩⟩
 ·refine ay (tab.hds p hp) fun k e1 e2=>?_
  refine aa e2 ?_
  exact inv.Gh k _ e1 _
structure LeaveX(r r':Rec)(J:Nat->Int)(pi:List Nat)(c:Bool)(ex:List AO)(u:Nat)(loc':aL)(σ:St):Prop where
 len:pi.length=47+ex.length
 nd:pi.Nodup
 fd:∃sh:List PV,fdOf pi σ=gO ex pi c r'.x.l (sh.map some)/\sh.map (cC (aW r J))=iU r'
 q:c=true->∃j,σ.mem.get 0=some (.cell (.d j))/\56<=j/\J j=r'.q
 ok:r'.Ok
 loc:∀x v,ah x loc'=some v->(ah x σ.loc=some (cV pi v)/\kB (47+ex.length) u v=true)\/∃j,ah x σ.loc=some (.d j)/\56<=j/\v= .int (J j)
noncomputable abbrev Leave(r r':Rec)(J:Nat->Int)(pi:List Nat)(c:Bool)(loc':aL)(σ:St):Prop:=LeaveX r r' J pi c [] 0 loc' σ
noncomputable def dJ(pi:List Nat)(W ae:Wd):Prop:=∀(i j:Nat) (a:Addr),pi[i]?=some j->W.bg[j]?=some a->ae.bg[i]?=some a
theorem kH(cls:P.cls=di)(R:T.Rep (G.at P (ec J)) h' m' W₁ σ)(UC:∀n v,n<56->W₁.gam[n]?=some v->Is G.prog G.w W₁.fx (aW r J n) (.v v))(gH:T.Ok G n (.fn sc) W₁)(Bx:∀x i,ah x T.cx.cells=some i->i=0)
  (hex:ex'.all (jU (47+ex'.length) xs'.length)=true) (hx:∀k y,xs'[k]?=some y->57+k<σ.nd/\J (57+k)=y) (lv:LeaveX r r' J pi c' ex' xs'.length loc' σ):∃ae,cF G T n sc r' c' ex' xs' m' h' loc' ae/\dJ pi W₁ ae:=by
 refine ay lv.fd fun sh fd Ga=>?_
 refine jB (R.fold lv.len lv.nd hex fd) fun g gc Xb v1 v2 gcl fin=>?_
 have leaf:∀gam n v,n<σ.nd->W₁.gam[n]?=some v->Is G.prog G.w (W₁.cut pi gam).fx (aW r J n) (.v v):=fun gam n v _ e=>by
  by_cases hn:n<56
  ·exact IsL.mono (fun p hp=>sJ _ hp) (fun _ _ q=>q) (UC n v hn e)
  ·unfold aW
   refine aa (if_neg hn) ?_
   refine aU (R.dat.int n v (J n) e (by show (if 56<=n then some (J n) else none)=_;exact aa (if_pos (by omega)) rfl)) fun t cw=>?_;clear e;subst cw
   exact .int ⟨t,rfl⟩
 have fsh:(zm pi σ.mem).map (Kz pi σ.nd σ.mem 8)=sh.map some:=congrArg Fd.sh fd
 have HT:∀gam i v,g[i]?=some v->Is G.prog G.w (W₁.cut pi gam).fx (aW r' (J0 r' xs') i) (.v v):=fun gam i v e=>by
  have hi:i<44:=Xb▸(jN e).1
  have hlen:=v1.length
  have ha:=iV (l:=zm pi σ.mem) (i:=i) (by omega)
  refine v1.qu ha fun v' e1 e2=>?_
  replace e1:=e▸e1;have fG:=aH e1;clear e1;subst fG
  have e3:=congrArg (fun l=>l[i]?) fsh
  simp only [List.getElem?_map,ha,Option.map_some] at e3
  refine ay (Option.map_eq_some_iff.mp e3.symm) fun y e4 e5=>?_
  have e6:=congrArg (fun l=>l[i]?) Ga
  simp only [List.getElem?_map,e4,Option.map_some] at e6
  have q:=(oy R (fx:=(W₁.cut pi gam).fx) (fun j l h1 h2 p hp=>Nc h1 h2 hp) 8 _ y v e5.symm e2).sub (fun _ h=>h) (leaf gam)
  have q2:aW r' (J0 r' xs') i=cC (aW r J) y:=by
   unfold aW
   refine aa (if_pos (Nat.lt_of_lt_of_le hi (zd rfl))) ?_
   unfold pvL
   refine aa (List.getElem?_append_left (by rw [<-Ga,List.length_map];exact (jN e4).1)) (aa (Eq.symm e6) ?_);rfl
  refine aa q2 ?_;exact q
 obtain ⟨e,el,he,hd⟩:=exts (prog:=G.prog) (w:=G.w) (fx:=(W₁.cut pi []).fx) (pv:=aW r' (J0 r' xs')) (s6 r') g (HT []) fun k d x=>by refine aa Xb ?_;exact M8 lv.ok _ k d x
 replace el:=(Fg ..)▸el
 have hq:∃v,Is G.prog G.w (W₁.cut pi []).fx (.int r'.q) (.v v)/\∀v',gc[0]?=some v'->v'=v:=by
  induction c' with
  |false=>exact ⟨.int r'.q 0, .int ⟨_,rfl⟩,fun v' x=>by rw [List.getElem?_eq_none (by rw [gcl];exact Nat.zero_le _)] at x;exact zS x⟩
  |true=>
   refine eN (lv.q rfl) fun j x1 x2 x3=>?_
   have hc:cellAt σ.mem=[.d j]:=by unfold cellAt;exact aa x1 rfl
   replace v2:=hc▸v2
   clear fin gcl HT hd he leaf
   refine ay v2.Yl fun v q p=>?_;clear v2;subst q
   refine aU (R.dat.int j v (J j) p (by show (if 56<=j then some (J j) else none)=_;exact aa (if_pos x2) rfl)) fun t dC=>?_;clear p;subst dC
   exact ⟨_,by refine aa (Eq.symm x3) ?_;exact .int ⟨t,rfl⟩,fun v' x=>by have gF:=aH x;clear x;subst gF;rfl⟩
 refine ay hq fun vq hq hgc=>?_
 have Mp:(g++e).length=56:=by exact aa List.length_append (aa Xb (aa el rfl))
 have ie:∀i v,((g++e) ++ [vq])[i]?=some v->Is G.prog G.w (W₁.cut pi []).fx (aW r' (J0 r' xs') i) (.v v):=vi he (by refine aa Mp ?_;exact hq)
 have l57:((g++e) ++ [vq]).length=57:=by refine aa List.length_append (aa Mp ?_);rfl
 generalize hys:((List.range xs'.length).map fun k=>(W₁.gam[57+k]?).getD .none)=ys
 have ysl:ys.length=xs'.length:=by exact aa (Eq.symm (hys ..)) (aa (List.length_map ..) (aa (List.length_range ..) rfl))
 have Xo:∀k v,ys[k]?=some v->k<xs'.length/\W₁.gam[57+k]?=some v:=fun k v x=>by
  have hk:k<xs'.length:=ysl▸(jN x).1
  replace x:=(Eq.symm (hys ..))▸x;replace x:=(List.getElem?_map ..)▸x;replace x:=(List.getElem?_range hk ..)▸x;replace x:=(Option.map_some ..)▸x
  refine ⟨hk,?_⟩
  have:=(hx k _ (iV hk)).1
  replace this:=(Eq.symm R.n3)▸this
  rw [iV this] at x ⊢
  exact x
 have U2:∀i v,(((g++e) ++ [vq])++ys)[i]?=some v->Is G.prog G.w (W₁.cut pi []).fx (aW r' (J0 r' xs') i) (.v v):=fun i v x=>by
  by_cases hi:i<57
  ·rw [List.getElem?_append_left (by omega)] at x;exact ie i v x
  ·rw [List.getElem?_append_right (by omega),l57] at x
   refine aM (Xo _ v x) fun hk x=>?_
   have hy:=iV hk
   have hj:=(hx _ _ hy).2
   have hj0:=Ws r' hy
   replace x:=(show 57+(i-57)=i by omega)▸x;replace hj:=(show 57+(i-57)=i by omega)▸hj;replace hj0:=(show 57+(i-57)=i by omega)▸hj0
   refine aU (R.dat.int i v (J i) x (by show (if 56<=i then some (J i) else none)=_;exact aa (if_pos (by omega)) rfl)) fun t dk=>?_;subst dk
   unfold aW
   refine aa (if_neg (by omega)) (aa hj0 (aa (Eq.symm hj) ?_))
   exact .int ⟨t,rfl⟩
 have Er:yc W₁ (((g++e) ++ [vq])++ys) xs'.length:=fun j v h1 h2 x=>by
  refine aa (List.getElem?_append_right (by omega)) (aa l57 ?_)
  have hk:j-57<xs'.length:=by omega
  refine aa (Eq.symm (hys ..)) (aa (List.getElem?_map ..) (aa (List.getElem?_range hk ..) (aa (Option.map_some ..) (aa (show 57+(j-57)=j by omega) (aa (x ..) ?_)))));rfl
 refine ⟨W₁.cut pi (((g++e) ++ [vq])++ys),⟨?_,U2,fun k d x g'=>?_,lv.ok,⟨gH.gL,?_⟩,Bx⟩,fun i j a h1 h2=>?_⟩
 ·have:=fin (gam:=((g++e) ++ [vq])++ys) (P:=aR) (I:=o6) (loc:=loc') (fun i v x=>by refine aa (eP ..) (aa (eP ..) ?_);exact ig x) (fun v x=>by refine aa (hgc v x) ?_;exact ig (iC (i:=0) Mp rfl)) Er cls.symm (fun x v hx=>?_) (Na rfl rfl rfl rfl rfl rfl (fun _=>rfl) fun i v x=>(U2 i v x).handed)
  ·replace this:=List.length_append▸this;replace this:=l57▸this;replace this:=ysl▸this;exact this
  ·rcases lv.loc _ v hx with ⟨x1,x2⟩ | ⟨j,x1,x2,rfl⟩
   ·refine ay (R.loc x _ x1) fun u x3 x4=>?_
    exact ⟨u,x3,VR.cut Er (by refine aa lv.len ?_;exact x2) x4⟩
   ·refine ay (R.loc x _ x1) fun u x3 x4=>?_
    exact ⟨u,x3,R.dat.int j u (J j) x4 (by show (if 56<=j then some (J j) else none)=_;exact aa (if_pos x2) rfl)⟩
 ·have:=hd k d x ([vq]++(ys++g'))
  replace this:=Xb▸this
  show FX G.prog G.w (W₁.cut pi []).fx ((((g++e) ++ [vq])++ys)++g') (44+k) d
  refine aa (eP ..) (aa (eP (g++e) ..) ?_);exact this
 ·obtain ⟨y1,y2,cn,scope,a,kX,cl,y3,y4,y5,y6,y7⟩:=gH.env
  refine ⟨y1,y2,cn,scope,a,kX,cl,y3,y4,y5,fun x i hx=>?_,y7⟩
  refine ay (y6 x i hx) fun z z1 z2=>?_
  cases Bx (code x) i hx
  have f0:=congrArg Fd.fix fd
  have f0:[pi[0]?,pi[1]?]=[some 0,some 1]:=f0
  replace f0:=(List.cons.injEq ..)▸f0
  refine ⟨z,?_,z2⟩
  show (pi.map _)[0]?=_
  refine aa (List.getElem?_map ..) (aa (f0.1 ..) (aa (Option.map_some ..) (aa (z1 ..) ?_)));rfl
 ·show (pi.map _)[i]?=_
  refine aa (List.getElem?_map ..) (aa (h1 ..) (aa (Option.map_some ..) (aa (h2 ..) ?_)));rfl
theorem cF.leave(inv:cF G T n sc r c ex xs m h loc W)(hJ:J 56=r.q)(cls:P.cls=di){qs:List (Int×Tok)}(le:(W.ext (qs.map cP)).le W₁)(R:T.Rep (G.at P (ec J)) h' m' W₁ σ)
  (hex:ex'.all (jU (47+ex'.length) xs'.length)=true) (hx:∀k y,xs'[k]?=some y->57+k<σ.nd/\J (57+k)=y) (lv:LeaveX r r' J pi c' ex' xs'.length loc' σ):∃ae,cF G T n sc r' c' ex' xs' m' h' loc' ae/\dJ pi W ae:=by
 have n3:W.gam.length=57+xs.length:=inv.rep.n3
 refine ay (kH cls R (fun n v hn e=>by
  obtain ⟨z,hz⟩:=le.gam
  rw [<-hz,List.getElem?_append_left (by show n<(W.gam++_).length;rw [List.length_append];omega)] at e
  have e:(W.gam++qs.map cP)[n]?=some v:=e
  rw [List.getElem?_append_left (by omega)] at e
  have:=inv.ie n v e
  unfold aW at this ⊢
  rw [if_pos hn] at this ⊢
  exact IsL.mono (fun p hp=>le.fx p hp) (fun _ _ q=>q) this) (inv.gH.mono ((W.cp _).trans le)) inv.Bx hex hx lv) fun ae bc hr=>?_
 exact ⟨ae,bc,fun i j a h1 h2=>hr i j a h1 (ai le.bg (show (W.ext _).bg[j]?=some a from h2))⟩
end
theorem CO(tG:eb G)(h:G.P.spec=WI (bN G.P)):tF G 5:=by
 intro n f fi pos σ z hn _ e T b W m s us Q E ok R hp P
 replace e:=h▸e
 have e':cond (Nat.beq f 166) (yr σ.mem σ.nd pos) (cond (Nat.beq f 159) (yt σ.mem σ.nd pos) (cond (Nat.beq f 173) (yq (bN G.P) σ.mem σ.nd pos) (cond (Nat.beq f 180) (yp σ.mem σ.nd pos) none)))=some z:=e
 generalize q1:Nat.beq f 166=bZ;induction bZ with
 |true=>replace e':=q1▸e';cases iL q1;exact MP tG ok (AI hn rfl) R hp e' P
 |false=>
  replace e':=q1▸e'
  generalize q2:Nat.beq f 159=ir;induction ir with
  |true=>replace e':=q2▸e';cases iL q2;exact kz tG ok (AI hn rfl) R hp e' P
  |false=>
   replace e':=q2▸e'
   generalize q3:Nat.beq f 173=ny;induction ny with
   |true=>replace e':=q3▸e';cases iL q3;exact Mz tG ok (AI hn rfl) R hp e' P
   |false=>
    replace e':=q3▸e'
    generalize q4:Nat.beq f 180=rS;induction rS with
    |true=>replace e':=q4▸e';cases iL q4;exact O7 tG ok (AI hn rfl) R hp e' P
    |false=>replace e':=q4▸e';exact zS e'
structure aX(r:Rec)(J:Nat->Int)(P:bA):Prop where
 tab:JS r J P
 fns:P.fns=iH
 kt:P.iW=mf
 spec:P.spec=WI (bN P)
 kn:P.kn=56
 ops:∀op i k nd v,ql op i k nd P.ops=some v->∃y,56<=i/\eU op (J i) k=some y/\k.natAbs<2 ^ 20/\(v= .int y\/∃j,v= .d j/\56<=j/\J j=y)
 eu:∀op i k nd v,kc op i k nd P.eu=some v->∃y,56<=i/\56<=k/\eU op (J i) (J k)=some y/\(J k).natAbs<2 ^ 20/\(v= .int y\/∃j,v= .d j/\56<=j/\J j=y)
 tg:∀i,56<=i->bN P i= .any
 eqs:∀p∈P.eqs,p.1<56/\p.2.1<56
 jO:∀p∈P.jO,p.1<56
 dg:∀p∈P.dg,p.1<56
 ds:∀p∈P.ds,p.1<56
theorem eJ(h:ec J i=some x):56<=i/\J i=x:=by
 unfold ec at h
 split at h
 ·have b7:=aH h;clear h;subst b7;exact ⟨‹_›,rfl⟩
 ·exact zS h
theorem oW{l:List (Nat×Nat×α)}(h:∀p∈l,¬ (p.1=i/\p.2.1=j)):wo i j l=none:=by
 generalize e:wo i j l=tR;induction tR with
 |none=>rfl
 |some r=>exact absurd ⟨rfl,rfl⟩ (h _ (jI e))
theorem aX.io{P:bA}(k:aX r J P)(G:Gx):dn (G.at P (ec J)) where
 op:=fun op i m nd v e=>by
  refine jC (k.ops op i m nd v e) fun y h1 h2 h4 h5=>?_
  refine ⟨J i,y,if_pos h1,h2,h4,h5.imp_right fun ⟨j,e1,e2,e3⟩=>⟨j,e1,?_⟩⟩
  show (if 56<=j then some (J j) else none)=_
  exact aa (if_pos e2) (aa e3 rfl)
 op2:=fun op i m nd v e=>by
  refine qC (k.eu op i m nd v e) fun y h1 Vd h2 h4 h5=>?_
  refine ⟨J i,J m,y,if_pos h1,if_pos Vd,h2,h4,h5.imp_right fun ⟨j,e1,e2,e3⟩=>⟨j,e1,?_⟩⟩
  show (if 56<=j then some (J j) else none)=_
  exact aa (if_pos e2) (aa e3 rfl)
 tag:=fun i x h _=> .inl (k.tg i (eJ h).1)
 eq:=fun i x h _ j=>⟨oW fun p hp e=>by have:=(k.eqs p hp).1;have:=(eJ h).1;omega,oW fun p hp e=>by have:=(k.eqs p hp).2;have:=(eJ h).1;omega⟩
 no:=fun i x h _ j=>⟨oW fun p hp e=>by have:=k.jO p hp;have:=(eJ h).1;omega,oW fun p hp e=>by have:=k.dg p hp;have:=(eJ h).1;omega,oW fun p hp e=>by have:=k.ds p hp;have:=(eJ h).1;omega⟩
 kn:=fun i x h _=>by show P.kn<=i;refine aa k.kn ?_;exact (eJ h).1
theorem aX.ga(k:aX r J P)(tG:eb G):j6 (G.at P (ec J)) 5:=
 (tG.at k.fns k.tab.cls k.kt).ga (CO (tG.at k.fns k.tab.cls k.kt) k.spec)
theorem At.Ok.at{T:At}(ok:T.Ok G n b W):T.Ok (G.at P I) n b W:=⟨ok.gL.of (Nat.le_refl _),ok.env⟩
section
variable {s:Shared}{J:Nat->Int}{qs:List (Int×Tok)}
theorem cF.BO(inv:cF G T n sc r c ex xs m s.heap loc W)(hn:35<=n)(I:Nat->Option Int):T.Ok (G.at P I) (30+5) (.fn sc) (W.ext (qs.map cP)):=⟨inv.gH.gL.of hn,(inv.gH.env).mono (W.cp _) fun _ h=>h⟩
theorem wD(tG:eb G)(inv:cF G T n sc r c ex xs m s.heap loc W)(hn:35<=n)(k:aX r J P)(hJ:J 56=r.q)(hx:∀k y,xs[k]?=some y->J (57+k)=y)(hq:∀i p,qs[i]?=some p->J (57+xs.length+i)=p.1)(hl:cv (W.ext (qs.map cP)) m bW){st:Stmt}(hf:j6 (G.at P (ec J)) 5->dn (G.at P (ec J))->SX (G.at P (ec J)) 35 (.fn sc) f st)
  (run:f T.cx ⟨bW,Mem.of (gy c r.x.l ex),57+xs.length+(qs.map cP).length⟩=some (fl,aF))
  (hex:ex'.all (jU (47+ex'.length) xs'.length)=true) (HR:∀k y,xs'[k]?=some y->57+k<aF.nd/\J (57+k)=y) (lv:LeaveX r r' J pi c' ex' xs'.length loc' aF)
  (post:∀W₁ ae m' h' tk fv,qd W₁ fl fv->cF G T n sc r' c' ex' xs' m' h' loc' ae->dJ pi W ae->Q fv {s with heap:=h',toks:=tk}):wpAny (model G.prog G.w) T.A (exec st T.env) Q E s:=by
 refine hf (k.ga tG) (k.io G) T _ m _ s fl aF Q E (inv.BO hn _) (inv.enter k.tab hJ hx hq hl) run fun W₁ m' h' tk fv le ak rf=>?_
 refine ay (inv.leave hJ k.tab.cls le ak hex HR lv) fun ae bF hr=>?_
 exact post W₁ ae m' h' tk fv rf bF hr
theorem wB(tG:eb G)(inv:cF G T n sc r c ex xs m s.heap loc W)(hn:35<=n)(k:aX r J P)(hJ:J 56=r.q)(hx:∀k y,xs[k]?=some y->J (57+k)=y)(hq:∀i p,qs[i]?=some p->J (57+xs.length+i)=p.1)(hl:cv (W.ext (qs.map cP)) m bW)
  (run:(den P (cH P 30) (cE G.gl (.fn sc) e)).ts T.cx ⟨bW,Mem.of (gy c r.x.l ex),57+xs.length+(qs.map cP).length⟩=some (b,aF))
  (hex:ex'.all (jU (47+ex'.length) xs'.length)=true) (HR:∀k y,xs'[k]?=some y->57+k<aF.nd/\J (57+k)=y) (lv:LeaveX r r' J pi c' ex' xs'.length loc' aF)
  (post:∀ae h' tk,cF G T n sc r' c' ex' xs' m h' loc' ae->dJ pi W ae->Q b {s with heap:=h',toks:=tk}):wpAny (model G.prog G.w) T.A (isTrue e T.env (eval e T.env)) Q E s:=by
 have ga:=k.ga tG
 have io:=k.io G
 refine (xd ga.gk ga.ca io (du ga io 30) e (.fn sc)).2 T _ m _ s b aF Q E (inv.BO hn _) (inv.enter k.tab hJ hx hq hl) run fun W₁ h' tk v le ak rf=>?_
 subst rf
 refine ay (inv.leave hJ k.tab.cls le ak hex HR lv) fun ae bF hr=>?_
 exact post ae h' tk bF hr
noncomputable def Wn(G:Gx)(n:Nat)(b:gf)(f:Xc)(yn:List Stmt):Prop:=∀(rest:List Stmt) (T:At) (W:Wd) (m:Str->Option Value) (σ:St) (s:Shared) (aF:St) (Q:Flow->Shared->Prop) (E:Value->Shared->Prop),
 T.Ok G n b W->T.Rep G s.heap m W σ->f T.cx σ=some (.next,aF)->(∀W' m' h' tk,W.le W'->T.Rep G h' m' W' aF->wpAny (model G.prog G.w) T.A (execs rest T.env) Q E {s with heap:=h',toks:=tk})->wpAny (model G.prog G.w) T.A (execs (yn++rest) T.env) Q E s
theorem ym:Wn G n b n9 []:=by
 intro rest T W m σ s aF Q E ok R ev P
 cases ev
 exact P W m s.heap s.toks (.refl _) R
theorem t7{st:Stmt}(hf:SX G n b f st)(hg:Wn G n b g yn):Wn G n b (jc f g) (st::yn):=by
 intro rest T W m σ s aF Q E ok R ev P
 refine af ev fun fl aE e1 e2=>?_;clear ev
 refine wpAny_execs_cons (hf T W m σ s fl _ _ E ok R e1 fun W₁ m₁ aq ar bp ag ak aK=>?_)
 induction fl with
 |next=>
  subst aK
  exact hg rest T W₁ m₁ aE {s with heap:=aq,toks:=ar} aF Q E (ok.mono ag) ak e2 fun ae m₂ aJ aG ax az=>P ae m₂ aJ aG (ag.trans ax) az
 |_=>exact nomatch e2
theorem fE(tG:eb G)(inv:cF G T n sc r c ex xs m s.heap loc W)(hn:35<=n)(k:aX r J P)(hJ:J 56=r.q)(hx:∀k y,xs[k]?=some y->J (57+k)=y)(hq:∀i p,qs[i]?=some p->J (57+xs.length+i)=p.1)(hl:cv (W.ext (qs.map cP)) m bW)(rest:List Stmt)
  (run:(den P (cH P 30) (tO G.gl (.fn sc) yn)).qw T.cx ⟨bW,Mem.of (gy c r.x.l ex),57+xs.length+(qs.map cP).length⟩=some (.next,aF))
  (hex:ex'.all (jU (47+ex'.length) xs'.length)=true) (HR:∀k y,xs'[k]?=some y->57+k<aF.nd/\J (57+k)=y) (lv:LeaveX r r' J pi c' ex' xs'.length loc' aF)
  (post:∀ae m' h' tk,cF G T n sc r' c' ex' xs' m' h' loc' ae->dJ pi W ae->wpAny (model G.prog G.w) T.A (execs rest T.env) Q E {s with heap:=h',toks:=tk}):wpAny (model G.prog G.w) T.A (execs (yn++rest) T.env) Q E s:=by
 have ga:=k.ga tG
 have io:=k.io G
 have go:∀l,Wn (G.at P (ec J)) 35 (.fn sc) (den P (cH P 30) (tO G.gl (.fn sc) l)).qw l:=fun l=>by
  induction l with
  |nil=>exact ym
  |cons st l ih=>exact t7 (IZ ga.gk ga.ca (xd ga.gk ga.ca io (du ga io 30)) st (.fn sc)) ih
 refine go yn rest T _ m _ s aF Q E (inv.BO hn _) (inv.enter k.tab hJ hx hq hl) run fun W₁ m' h' tk le ak=>?_
 refine ay (inv.leave hJ k.tab.cls le ak hex HR lv) fun ae bF hr=>?_
 exact post ae m' h' tk bF hr
theorem gx(c:Bool)(subs:List String):gy c subs []=br c subs:=List.append_nil _
theorem Ay:∀(k:Nat) (y:Int),([]:List Int)[k]?=some y->J (57+k)=y:=fun k y e=>zS e
theorem m7:∀(k:Nat) (y:Int),([]:List Int)[k]?=some y->57+k<N/\J (57+k)=y:=fun k y e=>zS e
theorem oo(tG:eb G)(inv:Inv G T n sc r c m s.heap loc W)(hn:35<=n)(k:aX r J P)(hJ:J 56=r.q)(hq:∀i p,qs[i]?=some p->J (57+i)=p.1)(hl:cv (W.ext (qs.map cP)) m bW){st:Stmt}(hf:j6 (G.at P (ec J)) 5->dn (G.at P (ec J))->SX (G.at P (ec J)) 35 (.fn sc) f st)
  (run:f T.cx ⟨bW,Mem.of (br c r.x.l),57+(qs.map cP).length⟩=some (fl,aF)) (lv:Leave r r' J pi c' loc' aF)
  (post:∀W₁ ae m' h' tk fv,qd W₁ fl fv->Inv G T n sc r' c' m' h' loc' ae->Q fv {s with heap:=h',toks:=tk}):wpAny (model G.prog G.w) T.A (exec st T.env) Q E s:=
 wD (ex:=[]) (ex':=[]) (xs:=[]) (xs':=[]) tG inv hn k hJ Ay hq hl hf (by refine aa (gx ..) ?_;exact run) rfl m7 lv fun W₁ ae m' h' tk fv rf bF _=>post W₁ ae m' h' tk fv rf bF
theorem qI(tG:eb G)(inv:Inv G T n sc r c m s.heap loc W)(hn:35<=n)(k:aX r J P)(hJ:J 56=r.q)(hq:∀i p,qs[i]?=some p->J (57+i)=p.1)(hl:cv (W.ext (qs.map cP)) m bW){st:Stmt}
  (run:(den P (cH P 30) (cS G.gl (.fn sc) st)).ex T.cx ⟨bW,Mem.of (br c r.x.l),57+(qs.map cP).length⟩=some (fl,aF)) (lv:Leave r r' J pi c' loc' aF)
  (post:∀W₁ ae m' h' tk fv,qd W₁ fl fv->Inv G T n sc r' c' m' h' loc' ae->Q fv {s with heap:=h',toks:=tk}):wpAny (model G.prog G.w) T.A (exec st T.env) Q E s:=
 oo tG inv hn k hJ hq hl (fun ga io=>IZ ga.gk ga.ca (xd ga.gk ga.ca io (du ga io 30)) st (.fn sc)) run lv post
theorem qG(tG:eb G)(inv:Inv G T n sc r c m s.heap loc W)(hn:35<=n)(k:aX r J P)(hJ:J 56=r.q)(hq:∀i p,qs[i]?=some p->J (57+i)=p.1)(hl:cv (W.ext (qs.map cP)) m bW)
  (run:(den P (cH P 30) (cE G.gl (.fn sc) e)).ts T.cx ⟨bW,Mem.of (br c r.x.l),57+(qs.map cP).length⟩=some (b,aF)) (lv:Leave r r' J pi c' loc' aF)
  (post:∀ae h' tk,Inv G T n sc r' c' m h' loc' ae->Q b {s with heap:=h',toks:=tk}):wpAny (model G.prog G.w) T.A (isTrue e T.env (eval e T.env)) Q E s:=
 wB (ex:=[]) (ex':=[]) (xs:=[]) (xs':=[]) tG inv hn k hJ Ay hq hl (by refine aa (gx ..) ?_;exact run) rfl m7 lv fun ae h' tk bF _=>post ae h' tk bF
end
theorem qF(l:List (Nat×Tg))(i:Nat):OF l i= .any\/(i,OF l i)∈l:=by
 unfold OF
 generalize h:ah i l=bZ;induction bZ with
 |none=>exact .inl rfl
 |some t=>exact .inr (aO h)
theorem rY(h:P.tags=bB 70 l)(i:Nat):bN P i= .any\/bN P i=OF l i:=by
 unfold bN
 refine aa (h ..) (aa (qb ..) ?_)
 unfold bB
 refine aa List.getElem?_map ?_
 by_cases hi:i<70
 ·refine aa (List.getElem?_range hi) ?_;exact .inr rfl
 ·refine aa (List.getElem?_eq_none (by rw [List.length_range];omega)) ?_;exact .inl rfl
theorem lM(h:P.tags=bB 70 l)(hl:∀p∈l,eQ p.2 (aW r J p.1))(i:Nat):eQ (bN P i) (aW r J i):=by
 rcases rY h i with q | q
 ·refine aa q ?_;trivial
 ·refine aa q ?_
  rcases qF l i with z | z
  ·refine aa z ?_;trivial
  ·exact hl _ z
theorem mZ(h:P.tags=bB 70 l)(hl:∀p∈l,p.1<56)(i:Nat)(hi:56<=i):bN P i= .any:=by
 rcases rY h i with q | q
 ·exact q
 ·refine aa q ?_
  rcases qF l i with z | z
  ·exact z
  ·have:=hl _ z
   have:i<56:=this
   omega
theorem qz(r:Rec)(k:Nat):r.l5 k 0=(r.res k).st:=by
 unfold Rec.l5
 cases r.res k<;>rfl
noncomputable def Rec.cur(r:Rec):Gr:=⟨r.x,r.res⟩
theorem Sb.mem{x:Sb}(h:s∈x.l):s= "G:1" \/s= "G:2" \/s= "G:3" :=by
 obtain ⟨a,b,c⟩:=x
 unfold Sb.l at h
 rcases List.mem_append.mp h with h | h
 ·induction a with
  |false=>exact nomatch (show s∈[] from h)
  |true=>exact .inl (dU h)
 ·rcases List.mem_append.mp h with h | h
  ·induction b with
   |false=>exact nomatch (show s∈[] from h)
   |true=>exact .inr (.inl (dU h))
  ·induction c with
   |false=>exact nomatch (show s∈[] from h)
   |true=>exact .inr (.inr (dU h))
theorem uG(r:Rec)(J:Nat->Int):cC (aW r J) (OS r.x.l)=r.cur.st:=by
 obtain ⟨res,val,kU,kV,⟨a,b,c⟩,q⟩:=r
 have h1:aW ⟨res,val,kU,kV,⟨a,b,c⟩,q⟩ J 18=(res 1).st:=qz _ 1
 have h2:aW ⟨res,val,kU,kV,⟨a,b,c⟩,q⟩ J 22=(res 2).st:=qz _ 2
 have h3:aW ⟨res,val,kU,kV,⟨a,b,c⟩,q⟩ J 26=(res 3).st:=qz _ 3
 have go:∀l:List String,(∀s∈l,aW ⟨res,val,kU,kV,⟨a,b,c⟩,q⟩ J (Xg (AA s))=(res (AA s)).st)->cC (aW ⟨res,val,kU,kV,⟨a,b,c⟩,q⟩ J) (List.rec .nil (fun s _ r=>PV.ent (S s) (.int (Xg (AA s):Nat)) r) l)=Gr.WG ⟨⟨a,b,c⟩,res⟩ l:=by
  intro l
  induction l with
  |nil=>intro _;rfl
  |cons s r ih=>
   intro h
   show PV.ent (S s) (aW _ J _) _=PV.ent (S s) _ _
   refine aa (ih fun x hx=>h x (fw _ hx)) ?_
   exact congrArg (fun z=>PV.ent (S s) z _) (h s cg)
 refine congrArg PV.dict (go _ fun s hs=>?_)
 rcases Sb.mem hs with rfl | rfl | rfl
 ·refine aa nm1 ?_;exact h1
 ·refine aa nm2 ?_;exact h2
 ·refine aa nm3 ?_;exact h3
theorem uF(r:Rec)(J:Nat->Int):cC (aW r J) (OR r.x.l)=r.cur.eA:=by
 obtain ⟨res,val,kU,kV,⟨a,b,c⟩,q⟩:=r
 have go:∀l:List String,(∀s∈l,aW ⟨res,val,kU,kV,⟨a,b,c⟩,q⟩ J (Ig (AA s))=(res (AA s)).eA)->cC (aW ⟨res,val,kU,kV,⟨a,b,c⟩,q⟩ J) (List.rec .nil (fun s _ r=>PV.cons (.tup (.cons (.str (S s)) (.cons (.int (Ig (AA s):Nat)) .nil))) r) l)=Gr.bC ⟨⟨a,b,c⟩,res⟩ l:=by
  intro l
  induction l with
  |nil=>intro _;rfl
  |cons s r ih=>
   intro h
   show PV.cons (.tup (.cons (.str (S s)) (.cons (aW _ J _) .nil))) _=PV.cons _ _
   refine aa (ih fun x hx=>h x (fw _ hx)) ?_
   exact congrArg (fun z=>PV.cons (.tup (.cons (.str (S s)) (.cons z .nil))) _) (h s cg)
 refine congrArg PV.list (go _ fun s hs=>?_)
 rcases Sb.mem hs with rfl | rfl | rfl
 ·refine aa nm1 ?_;rfl
 ·refine aa nm2 ?_;rfl
 ·refine aa nm3 ?_;rfl
theorem Gr.eq_comm(g h:Gr):g.eq h=h.eq g:=by
 obtain ⟨⟨a,b,c⟩,f⟩:=g
 obtain ⟨⟨a',b',c'⟩,f'⟩:=h
 unfold Gr.eq
 dsimp only
 refine aa (Res.eq_comm (f 1) ..) (aa (Res.eq_comm (f 2) ..) (aa (Res.eq_comm (f 3) ..) ?_))
 induction a<;>induction b<;>induction c<;>induction a'<;>induction b'<;>induction c'<;>rfl
theorem kh(a b:Res):jb a.st b.st (a.eq b):=⟨Res.qR a b,Nat.le_trans (Res.ta a) (zd rfl),Res.kh a b⟩
theorem gq(a b:Res):jb b.eA a.eA (a.eq b):=⟨Res.sD b a,Nat.le_trans (Res.nY b) (zd rfl),(Res.gq b a).trans (Res.eq_comm b a)⟩
theorem M0(a b:Gr):jb a.st b.st (a.eq b):=⟨Gr.qR a b,Nat.le_trans (Gr.ta a) (zd rfl),Gr.kh a b⟩
theorem H7(a b:Gr):jb b.eA a.eA (a.eq b):=⟨Gr.sD b a,Nat.le_trans (Gr.nY b) (zd rfl),(Gr.gq b a).trans (Gr.eq_comm b a)⟩
theorem eq_str(x:Str):jb (.str x) (.str x) true:=⟨rfl,Nat.zero_le _,beq_self_eq_true x⟩
noncomputable def UE(r:Rec):KU:=match r.kU with
 |none=> .no
 |some (m,g)=> .yes (m.eq (r.res 0)) (g.eq r.cur)
noncomputable def UD(r:Rec):KU:=match r.kV with
 |none=> .no
 |some (u,m)=> .yes (u.eq (r.res 5)) (m.eq (r.res 0))
theorem CL{a:Res}(h:a≠ .none):a.st≠ .none:=by induction a<;>first | exact absurd rfl h | exact nofun
theorem gS{J:Nat->Int}{P:bA}(h:P.ops=[]):∀op i k nd v,ql op i k nd P.ops=some v->∃y,56<=i/\eU op (J i) k=some y/\k.natAbs<2 ^ 20/\(v= .int y\/∃j,v= .d j/\56<=j/\J j=y):=fun op i k nd v e=>by replace e:=h▸e;exact zS e
theorem bR{J:Nat->Int}{P:bA}(h:P.eu=[]):∀op i k nd v,kc op i k nd P.eu=some v->∃y,56<=i/\56<=k/\eU op (J i) (J k)=some y/\(J k).natAbs<2 ^ 20/\(v= .int y\/∃j,v= .d j/\56<=j/\J j=y):=fun op i k nd v e=>by replace e:=h▸e;exact zS e
theorem jq:true=full (S "MD5Checker").cps.toList/\(S "MD5Checker").cps.toList.length<=900:=by decide +kernel
theorem all_nil{p:α->Prop}:∀x∈([]:List α),p x:=fun _ h=>zM h
theorem all_cons{p:α->Prop}(h:p a)(r:∀x∈l,p x):∀x∈a::l,p x:=fun x hx=>by
 rcases gn hx with rfl | hx
 ·exact h
 ·exact r x hx
theorem yl(k:KU):∀p∈sa k,p.1<56:=by
 induction k with
 |no=>exact all_cons (zd rfl) (all_cons (zd rfl) (all_cons (zd rfl) (all_cons (zd rfl) all_nil)))
 |yes a b=>exact all_cons (zd rfl) (all_cons (zd rfl) (all_cons (zd rfl) (all_cons (zd rfl) (all_cons (zd rfl) (all_cons (zd rfl) all_nil)))))
theorem yk(k:KU):∀p∈rZ k,p.1<56:=by
 induction k with
 |no=>exact all_cons (zd rfl) (all_cons (zd rfl) (all_cons (zd rfl) (all_cons (zd rfl) all_nil)))
 |yes a b=>exact all_cons (zd rfl) (all_cons (zd rfl) (all_cons (zd rfl) (all_cons (zd rfl) (all_cons (zd rfl) (all_cons (zd rfl) all_nil)))))
theorem K4{r:Rec}(ok:r.Ok)(J:Nat->Int):aX r J (pU r.x.l (UE r)):=by
 have sG:=uG r J
 have sL:=uF r J
 obtain ⟨res,val,kU,kV,x,q⟩:=r
 induction kU with
 |none=>
  have h5:res 5= .none:=ok.u.mpr rfl
  have b:∀j,Rec.l5 ⟨res,val,none,kV,x,q⟩ 5 j= .none:=fun j=>by show (match res 5 with | .none=>PV.none | a=>_)=_;exact aa h5 rfl
  have hl:∀p∈sa .no,eQ p.2 (aW ⟨res,val,none,kV,x,q⟩ J p.1):=all_cons rfl (all_cons (b 1) (all_cons (b 2) (all_cons (.inl (b 3)) all_nil)))
  exact {tab:=⟨rfl,lM rfl hl,all_nil,all_nil,all_nil,all_nil,all_nil⟩,fns:=rfl,kt:=rfl,spec:=rfl,kn:=rfl,ops:=gS rfl,eu:=bR rfl,tg:=mZ (l:=sa .no) rfl (yl _),eqs:=all_nil,jO:=all_nil,dg:=all_nil,ds:=all_nil}
 |some p=>
  obtain ⟨m,g⟩:=p
  have h5:res 5≠ .none:=fun h=>nomatch ok.u.mp h
  have b1:Rec.l5 ⟨res,val,some (m,g),kV,x,q⟩ 5 1=_:=cR (j:=0) h5
  have b2:Rec.l5 ⟨res,val,some (m,g),kV,x,q⟩ 5 2= .str (S "MD5Checker"):=cR (j:=1) h5
  have b3:Rec.l5 ⟨res,val,some (m,g),kV,x,q⟩ 5 3= .tup .nil:=cR (j:=2) h5
  have b0:Rec.l5 ⟨res,val,some (m,g),kV,x,q⟩ 0 0=(res 0).st:=qz _ 0
  have hl:∀p∈sa (.yes (m.eq (res 0)) (g.eq ⟨x,res⟩)),eQ p.2 (aW ⟨res,val,some (m,g),kV,x,q⟩ J p.1):=
   all_cons ⟨_,_,rfl⟩ (all_cons ⟨_,b1,rfl⟩ (all_cons ⟨_,b2,jq⟩ (all_cons (.inr b3) (all_cons (by induction kV<;>exact CL (ok.um m g rfl)) (all_cons (by induction kV<;>exact nofun) all_nil)))))
  refine {tab:=⟨rfl,lM rfl hl,?_,?_,?_,?_,?_⟩,fns:=rfl,kt:=rfl,spec:=rfl,kn:=rfl,ops:=gS rfl,eu:=bR rfl,tg:=mZ (l:=sa (.yes (m.eq (res 0)) (g.eq ⟨x,res⟩))) rfl (yl _),eqs:=all_cons ⟨zd rfl,zd rfl⟩ (all_cons ⟨zd rfl,zd rfl⟩ all_nil),jO:=all_cons (zd rfl) all_nil,dg:=all_cons (zd rfl) (all_cons (zd rfl) all_nil),ds:=all_cons (zd rfl) (all_cons (zd rfl) (all_cons (zd rfl) (all_cons (zd rfl) all_nil)))}
  ·refine all_cons ?_ (all_cons (gq m (res 0)) all_nil)
   show jb _ (Rec.l5 _ 0 0) _
   refine aa b0 ?_
   induction kV<;>exact kh m (res 0)
  ·refine all_cons ⟨S "MD5Checker",rfl,?_⟩ all_nil
   show jb (Rec.l5 _ 5 2) _ _
   refine aa b2 ?_;exact eq_str _
  ·exact all_cons ⟨8,S "_result:M",by induction kV<;>rfl,rfl,rfl⟩ (all_cons ⟨9,S "_result:G",by induction kV<;>rfl,rfl,rfl⟩ all_nil)
  ·exact all_cons ⟨0,rfl,rfl⟩ (all_cons ⟨1,rfl,rfl⟩ (all_cons ⟨2,rfl,rfl⟩ (all_cons ⟨3,rfl,rfl⟩ all_nil)))
  ·refine all_cons ?_ (all_cons ?_ all_nil)
   ·show jb _ (cC _ (OS _)) _
    refine aa sG ?_
    induction kV<;>exact M0 g ⟨x,res⟩
   ·show jb (cC _ (OR _)) _ _
    refine aa sL ?_
    exact H7 g ⟨x,res⟩
theorem K3{r:Rec}(ok:r.Ok)(J:Nat->Int):aX r J (pV (UD r)):=by
 obtain ⟨res,val,kU,kV,x,q⟩:=r
 induction kV with
 |none=>
  have h5:res 6= .none:=ok.v.mpr rfl
  have b:∀j,Rec.l5 ⟨res,val,kU,none,x,q⟩ 6 j= .none:=fun j=>by show (match res 6 with | .none=>PV.none | a=>_)=_;exact aa h5 rfl
  have hl:∀p∈rZ .no,eQ p.2 (aW ⟨res,val,kU,none,x,q⟩ J p.1):=all_cons rfl (all_cons (b 1) (all_cons (b 2) (all_cons (.inl (b 3)) all_nil)))
  exact {tab:=⟨rfl,lM rfl hl,all_nil,all_nil,all_nil,all_nil,all_nil⟩,fns:=rfl,kt:=rfl,spec:=rfl,kn:=rfl,ops:=gS rfl,eu:=bR rfl,tg:=mZ (l:=rZ .no) rfl (yk _),eqs:=all_nil,jO:=all_nil,dg:=all_nil,ds:=all_nil}
 |some p=>
  obtain ⟨u,m⟩:=p
  have h5:res 6≠ .none:=fun h=>nomatch ok.v.mp h
  have b1:Rec.l5 ⟨res,val,kU,some (u,m),x,q⟩ 6 1=_:=cR (j:=0) h5
  have b2:Rec.l5 ⟨res,val,kU,some (u,m),x,q⟩ 6 2= .str (S "MD5Checker"):=cR (j:=1) h5
  have b3:Rec.l5 ⟨res,val,kU,some (u,m),x,q⟩ 6 3= .tup .nil:=cR (j:=2) h5
  have b0:Rec.l5 ⟨res,val,kU,some (u,m),x,q⟩ 0 0=(res 0).st:=qz _ 0
  have b5:Rec.l5 ⟨res,val,kU,some (u,m),x,q⟩ 5 0=(res 5).st:=qz _ 5
  have hl:∀p∈rZ (.yes (u.eq (res 5)) (m.eq (res 0))),eQ p.2 (aW ⟨res,val,kU,some (u,m),x,q⟩ J p.1):=
   all_cons ⟨_,_,rfl⟩ (all_cons ⟨_,b1,rfl⟩ (all_cons ⟨_,b2,jq⟩ (all_cons (.inr b3) (all_cons (by induction kU<;>exact CL (ok.vm u m rfl).1) (all_cons (by induction kU<;>exact CL (ok.vm u m rfl).2) all_nil)))))
  refine {tab:=⟨rfl,lM rfl hl,?_,?_,?_,?_,all_nil⟩,fns:=rfl,kt:=rfl,spec:=rfl,kn:=rfl,ops:=gS rfl,eu:=bR rfl,tg:=mZ (l:=rZ (.yes (u.eq (res 5)) (m.eq (res 0)))) rfl (yk _),eqs:=all_cons ⟨zd rfl,zd rfl⟩ (all_cons ⟨zd rfl,zd rfl⟩ (all_cons ⟨zd rfl,zd rfl⟩ (all_cons ⟨zd rfl,zd rfl⟩ all_nil))),jO:=all_cons (zd rfl) all_nil,dg:=all_cons (zd rfl) (all_cons (zd rfl) all_nil),ds:=all_cons (zd rfl) (all_cons (zd rfl) (all_cons (zd rfl) (all_cons (zd rfl) all_nil)))}
  ·refine all_cons ?_ (all_cons ?_ (all_cons ?_ (all_cons ?_ all_nil)))
   ·show jb _ (Rec.l5 _ 5 0) _
    refine aa b5 ?_
    induction kU<;>exact kh u (res 5)
   ·induction kU<;>exact gq u (res 5)
   ·show jb _ (Rec.l5 _ 0 0) _
    refine aa b0 ?_
    induction kU<;>exact kh m (res 0)
   ·induction kU<;>exact gq m (res 0)
  ·refine all_cons ⟨S "MD5Checker",rfl,?_⟩ all_nil
   show jb (Rec.l5 _ 6 2) _ _
   refine aa b2 ?_;exact eq_str _
  ·exact all_cons ⟨10,S "_result:U",by induction kU<;>rfl,rfl,rfl⟩ (all_cons ⟨11,S "_result:M",by induction kU<;>rfl,rfl,rfl⟩ all_nil)
  ·exact all_cons ⟨4,by induction kU<;>rfl,rfl⟩ (all_cons ⟨5,by induction kU<;>rfl,rfl⟩ (all_cons ⟨6,by induction kU<;>rfl,rfl⟩ (all_cons ⟨7,by induction kU<;>rfl,rfl⟩ all_nil)))
end
section
open PySem
noncomputable def j3:List Stmt:=H.fB H.FN
noncomputable def aA:List (Str×NameKind):=(H.fS H.FN).names
noncomputable def bO(l:List Stmt)(i:Nat):Stmt:=Option.rec (.Pass default) id (FC l i)
noncomputable def xE:Expr->List Expr
 | .BoolOp _ es _=>es
 | .BinOp l _ r _=>[l,r]
 | .UnaryOp _ e _=>[e]
 | .Call f as _ _=>f::as
 | .Attribute e _ _=>[e]
 | .Subscript v i _=>[v,i]
 | .Slice _ u _ _=>u.toList
 | .Tuple es _ _=>es
 | .ListComp e _ _ _=>[e]
 |_=>[]
noncomputable def xS:Stmt->List Expr
 | .If t _ _ _=>[t]
 | .For t i _ _ _=>[t,i]
 | .Assign ts v _=>v::ts
 | .Raise e _ _=>e.toList
 |_=>[]
noncomputable def xB:Stmt->List (List Stmt)
 | .For _ _ b _ _=>[b]
 | .If _ b o _=>[b,o]
 | .Try b _ _ _ _=>[b]
 |_=>[]
noncomputable def xK:Expr->Nat
 | .Constant _ k _=>k
 | .Tuple _ k _=>k
 |_=>0
noncomputable def dR(l:List Expr)(i:Nat):Expr:=Option.rec (.Constant .none 0 default) id (FC l i)
noncomputable def LW(l:List (List Stmt))(i:Nat):List Stmt:=Option.rec [] id (FC l i)
noncomputable def bodyOf(s:Stmt):List Stmt:=LW (xB s) 0
noncomputable def gr(s:Stmt):List Stmt:=LW (xB s) 1
noncomputable def gY:List Stmt:=bodyOf (bO j3 8)
noncomputable def cX:Stmt:=bO gY 3
noncomputable def bC(rest:aL):aL:=[f_ "store" (.o 2),f_ "manager" (.o 5),f_ "subs" (.o 6),f_ "tasks" (.o 10),f_ "results" (.o 7),f_ "values" (.o 8),f_ "kept" (.o 9)]++rest
noncomputable def cb:Cx:=⟨[(code (S "q"),0)],none⟩
noncomputable def sg(P:bA)(st:Stmt)(c:Bool)(subs:List String)(loc:aL)(k:Nat):R AF:=(den P (cH P 30) (cS aT (.fn aA) st)).ex cb ⟨loc,Mem.of (br c subs),57+k⟩
noncomputable def nD(pi:List Nat)(loc':aL)(r:R AF):Option (AF×Option AO×List (Option AV)×Fd):=Option.map (fun z=>(z.1,z.2.mem.get 0,loc'.map (fun p=>ah p.1 z.2.loc),fdOf pi z.2)) r
noncomputable def pX(pi:List Nat)(loc':aL)(cell:AV)(subs:List String)(sh:List PV):Option (AF×Option AO×List (Option AV)×Fd):=some (.next,some (.cell cell),loc'.map (fun p=>some (cV pi p.2)),lY pi true subs (sh.map some))
noncomputable def mA(l:List PV)(u:List (Nat×PV)):List PV:=List.rec l (fun p _ ih=>lz ih p.1 p.2) u
inductive Q4 where
 |r | s | d0 | d1
noncomputable def Q4.i:Q4->Int
 | .r=>0 | .s=>1 | .d0=>2 | .d1=>3
noncomputable def Q4.gX:Q4->Bool
 | .r=>false | .s=>false | .d0=>true | .d1=>true
noncomputable def BN:List Q4:=[.r, .s, .d0, .d1]
noncomputable def Dw:List Int:=[0,1,2]
noncomputable def Ax(a b:Nat)(x:Q4)(r3:Int):List (Operator×Nat×Int×AV):=(.Mod,a,4, .int x.i)::(.Mod,a,3, .int r3)::bif x.gX then [(.Mod,a,2, .d b),(.Mod,a,5, .d (b+1))] else [(.Mod,a,5, .d b)]
noncomputable def uJ(a b:Nat)(x:Q4)(r3:Int):bA:={aR with tags:=bB 70 [],ops:=Ax a b x r3,kn:=56,spec:=spT []}
noncomputable def WK(b:Nat):PV:= .dict (.ent (S "k") (.int b) (.ent (S "of") (.str (S "t")) .nil))
noncomputable def txt:Q4->String
 | .r=> "r" |_=> "s"
noncomputable def ly(k b:Nat)(x:Q4)(r3:Int)(mark:Option String):List (Nat×PV):=
 [(k,match mark with
  |some m=> .str (S m)
  |none=>bif x.gX then WK b else .tup (.cons (.str (S "text")) (.cons (.str (S (txt x))) .nil))),
 (14+4*k,match mark with
  |some m=> .str (S m)
  |none=>bif x.gX then WK b else .str (S (txt x))),
 (7+k, .dict (bif decide (r3=0) then .nil else .ent (S "n") (.int (bif x.gX then (b+1:Nat) else (b:Nat))) .nil)),
 (15+4*k, .dict (bif decide (r3=0) then .nil else .ent (S "n") (.int (bif x.gX then (b+1:Nat) else (b:Nat))) .nil)),
 (16+4*k, .str (S "MD5Checker")),(17+4*k, .tup .nil)]
noncomputable def lK(kind:Int):aL:=bC [f_ "good" (.bool true),f_ "kind" (.int kind),f_ "i" (.d 57)]
noncomputable def lT:aL:=bC [f_ "good" (.bool true),f_ "i" (.d 57)]
noncomputable def WU:List (Nat×String):=[(1, "G:1"),(2, "G:2"),(3, "G:3"),(4, "Gx")]
theorem Aa:∀subs,(BN.map fun x=>Dw.map fun r3=>nD bl lT (sg (uJ 56 58 x r3) cX true subs (lK 0) 1))=BN.map fun x=>Dw.map fun r3=>pX bl lT (.d 56) subs (mA same (ly 0 58 x r3 none)):=fun subs=>by kernel_rfl
noncomputable def w9(k:Nat)(x:Q4)(r3:Int):bA:={aR with tags:=bB 70 [],ops:=(.Mod,56,4, .int ((k-1:Nat):Int))::(.FloorDiv,56,4, .d 58)::Ax 59 60 x r3,eu:=[(.Add,58,57, .d 59)],kn:=56,spec:=spT []}
theorem z9:∀subs,(WU.map fun k=>BN.map fun x=>Dw.map fun r3=>nD bl lT (sg (w9 k.1 x r3) cX true subs (lK 1) 1))=WU.map fun k=>BN.map fun x=>Dw.map fun r3=>pX bl lT (.d 56) subs (mA same (ly k.1 60 x r3 none)):=fun subs=>by kernel_rfl
noncomputable def D4(r3:Int):String:=cond (decide (r3=0)) "" (cond (decide (r3=1)) "h" "g")
theorem z8:∀subs,(BN.map fun x=>Dw.map fun r3=>nD bl lT (sg (uJ 56 58 x r3) cX true subs (lK 7) 1))=BN.map fun x=>Dw.map fun r3=>pX bl lT (.d 56) subs (mA same (ly 0 58 x r3 (some (D4 r3)))):=fun subs=>by kernel_rfl
noncomputable def iQ:List Stmt:=gr (bO (gr (bO (gr (bO (gr (bO (gr cX) 0)) 0)) 0)) 0)
noncomputable def sz(k:Nat):bA:={aR with tags:=bB 70 [],ops:=[(.Mod,56,7, .int (k:Nat))],kn:=56,spec:=spT []}
noncomputable def wL(k:Nat):List (Nat×PV):=[(k, .none),(7+k, .dict .nil),(14+4*k, .none),(15+4*k, .none),(16+4*k, .none),(17+4*k, .none)]++(cond (Nat.beq k 5) [(42, .none)] (cond (Nat.beq k 6) [(43, .none)] []))
theorem wR:∀subs,((List.range 7).map fun k=>nD bl lT (sg (sz k) cX true subs (lK 2) 1))=(List.range 7).map fun k=>pX bl lT (.d 56) subs (mA same (wL k)):=fun subs=>by kernel_rfl
end
section
open PySem PySem.W PySem.Calls PyProof.Rows PyProof.V PySem.Spec
theorem sf(h:nD pi loc x=pX pi loc cell subs sh):
  ∃σ,x=some (.next,σ)/\σ.mem.get 0=some (.cell cell)/\(loc.map (fun p=>ah p.1 σ.loc)=loc.map fun p=>some (cV pi p.2))/\fdOf pi σ=lY pi true subs (sh.map some):=by
 induction x with
 |none=>exact zS h
 |some z=>
  obtain ⟨fl,σ⟩:=z
  have h:=aH h
  replace h:=(Prod.mk.injEq ..)▸h;replace h:=(Prod.mk.injEq ..)▸h;replace h:=(Prod.mk.injEq ..)▸h
  refine tJ h fun h1 h2 h3 h4=>?_;clear h
  have h1:fl= .next:=h1
  subst h1
  exact ⟨σ,rfl,h2,h3,h4⟩
theorem gb:∀{l:List (Nat×α)} {k:Nat} {v:α},ah x (l ++ [(k,v)])=(ah x l).or (if k=x then some v else none)
 | [],k,v=>by refine aa (List.nil_append ..) (aa (aI ..) ?_);rfl
 |(a,b)::l,k,v=>by
  refine aa (List.cons_append ..) (aa (aI ..) (aa (aI ..) (aa (gb (l:=l) ..) ?_)))
  split<;>rfl
theorem yK(z:String)(h:cv W m (pre ++ [f_ z (.int i)]))(hn:ah (code (S z)) pre=none)(qt:W.gam.length=57):∃t,cv (W.ext ([(i,t)].map cP)) m (pre ++ [f_ z (.d 57)]):=by
 obtain ⟨u,e1,t,rfl⟩:=h (S z) (.int i) (by show ah _ (pre ++ [(code (S z),AV.int i)])=_;refine aa gb (aa hn (aa (if_pos rfl) ?_));rfl)
 refine ⟨t,fun x v e=>?_⟩
 have e:ah (code x) (pre ++ [(code (S z),AV.d 57)])=some v:=e
 replace e:=gb▸e
 generalize q:ah (code x) pre=bZ;induction bZ with
 |some v'=>
  replace e:=q▸e
  cases e
  refine ay (h x v (by show ah _ (pre ++ [(code (S z),AV.int i)])=_;refine aa gb (aa q ?_);rfl)) fun u g1 g2=>?_
  exact ⟨u,g1,g2.mono (W.cp _)⟩
 |none=>
  replace e:=q▸e
  by_cases hx:code (S z)=code x
  ·replace e:=(if_pos hx)▸e
   have cw:=aH e;clear e;subst cw
   cases code_inj hx
   exact ⟨_,e1,by show (W.gam ++ [_])[57]?=_;refine aa (List.getElem?_append_right (by omega)) (aa qt ?_);rfl⟩
  ·replace e:=(if_neg hx)▸e;exact zS e
theorem kG(h:cv W m (pre ++ [f_ "i" (.int i)])) (hn:ah (code (S "i")) pre=none) (qt:W.gam.length=57):∃t,cv (W.ext ([(i,t)].map cP)) m (pre ++ [f_ "i" (.d 57)]):=yK "i" h hn qt
noncomputable def jY(i:Int):aL:=bC [f_ "good" (.bool true)] ++ [f_ "i" (.int i)]
theorem nR{σ:St}{J:Nat->Int}(hp:∀p∈pre,cJ 47 p.2=true/\cV bl p.2=p.2)(h:((pre ++ [f_ "i" (.d 57)]).map (fun p=>ah p.1 σ.loc)=(pre ++ [f_ "i" (.d 57)]).map fun p=>some (cV bl p.2))) (hJ:J 57=i):
  ∀x v,ah x (pre ++ [f_ "i" (.int i)])=some v->(ah x σ.loc=some (cV bl v)/\cJ 47 v=true)\/∃j,ah x σ.loc=some (.d j)/\56<=j/\v= .int (J j):=by
 intro x v e
 rcases List.mem_append.mp (aO e) with hm | hm
 ·exact .inl ⟨aw h (x,v) (sJ _ hm),(hp _ hm).1⟩
 ·have e2:=aw h (f_ "i" (.d 57)) (List.mem_append_right _ cg)
  have e3:(x,v)=f_ "i" (.int i):=dU hm
  cases e3
  exact .inr ⟨57,e2,by omega,by exact aa hJ rfl⟩
theorem yx(h:∀p∈rest,cJ 47 p.2=true/\cV bl p.2=p.2):∀p∈bC rest,cJ 47 p.2=true/\cV bl p.2=p.2:=
 all_cons ⟨rfl,rfl⟩ (all_cons ⟨rfl,rfl⟩ (all_cons ⟨rfl,rfl⟩ (all_cons ⟨rfl,rfl⟩ (all_cons ⟨rfl,rfl⟩ (all_cons ⟨rfl,rfl⟩ (all_cons ⟨rfl,rfl⟩ h))))))
theorem eG:bl.length=47:=rfl
theorem gi:bl.Nodup:=List.nodup_range
theorem bH(r:Rec)(J:Nat->Int):same.map (cC (aW r J))=iU r:=rfl
noncomputable def Jl(l:List Int)(n:Nat):Int:=(l[n-56]?).getD 0
theorem IQ(h:P.tags=bB 70 [])(i:Nat):bN P i= .any:=by
 rcases rY h i with q | q
 ·exact q
 ·exact q
theorem oF(h1:P.cls=di)(ht:P.tags=bB 70 [])(h2:P.eqs=[])(h3:P.jO=[])(h4:P.dg=[])(h5:P.ds=[])(h6:P.pT=[])(h7:P.fns=iH)(h8:P.iW=mf)(h9:P.spec=spT [])(Jj:P.kn=56)
  (ops:∀op i k nd v,ql op i k nd P.ops=some v->∃y,56<=i/\eU op (J i) k=some y/\k.natAbs<2 ^ 20/\(v= .int y\/∃j,v= .d j/\56<=j/\J j=y))
  (eu:∀op i k nd v,kc op i k nd P.eu=some v->∃y,56<=i/\56<=k/\eU op (J i) (J k)=some y/\(J k).natAbs<2 ^ 20/\(v= .int y\/∃j,v= .d j/\56<=j/\J j=y)):aX r J P where
 tab:=⟨h1,fun i=>by refine aa (IQ ht ..) ?_;trivial,by refine aa h2 ?_;exact all_nil,by refine aa h3 ?_;exact all_nil,by refine aa h4 ?_;exact all_nil,by refine aa h5 ?_;exact all_nil,by refine aa h6 ?_;exact all_nil⟩
 fns:=h7
 kt:=h8
 spec:=by refine aa h9 ?_;unfold spT bN;exact aa ht rfl
 kn:=Jj
 ops:=ops
 eu:=eu
 tg:=fun i _=>IQ ht i
 eqs:=by refine aa h2 ?_;exact all_nil
 jO:=by refine aa h3 ?_;exact all_nil
 dg:=by refine aa h4 ?_;exact all_nil
 ds:=by refine aa h5 ?_;exact all_nil
noncomputable def IA(J:Nat->Int)(p:Operator×Nat×Int×AV):Prop:=∃y,56<=p.2.1/\eU p.1 (J p.2.1) p.2.2.1=some y/\p.2.2.1.natAbs<2 ^ 20/\(p.2.2.2= .int y\/∃j,p.2.2.2= .d j/\56<=j/\J j=y)
theorem fR:∀{l:List (Operator×Nat×Int×AV)},(∀p∈l,IA J p)->ql op i k nd l=some v->∃y,56<=i/\eU op (J i) k=some y/\k.natAbs<2 ^ 20/\(v= .int y\/∃j,v= .d j/\56<=j/\J j=y)
 | [],_,e=>zS e
 |(o,a,b,c)::l,h,e=>by
  have e':(Bool.rec (ql op i k nd l) (some c) (mG o op&&Nat.beq a i&&decide (b=k)&&okN nd c):Option AV)=some v:=e
  generalize q:(mG o op&&Nat.beq a i&&decide (b=k)&&okN nd c)=ir;induction ir with
  |true=>
   replace e':=q▸e'
   have dC:=aH e';clear e';subst dC
   replace q:=(Bool.and_eq_true ..)▸q;replace q:=(Bool.and_eq_true ..)▸q;replace q:=(Bool.and_eq_true ..)▸q
   refine aM q fun b7 _=>?_;clear q;obtain ⟨⟨q1,q2⟩,q3⟩:=b7
   have:=h _ cg
   cases of_decide_eq_true q1
   cases iL q2
   cases of_decide_eq_true q3
   exact this
  |false=>replace e':=q▸e';exact fR (fun p hp=>h p (fw _ hp)) e'
section
open LCg LCt
noncomputable def B7(P:bA)(f:Ev)(x:Nat)(fi:Ev)(c:Ts)(y:Nat):Xc:=fun cx σ=>cj (Bh P f x fi (some c) cx σ) fun a σ=>ob (V4 y a cx σ) fun σ=>some (.next,σ)
theorem GL(gk:qi G)(tM:xu scope (code x) (.fn sc)=true)(sT:bT iter=false)(hi:SE G n (.fn sc) fi iter)(hf:SE G n (.comp scope.names sc) f elt)(hc:zQ G n (.comp scope.names sc) c ct)
  (hy:sc.lookup y=some .local) (hd:Nat.beq (code y) Vz=false) (hl:(py.line==pos.line)=true) (W3:(scope.names.any fun (n,k)=>n==y&&(k == .local||k == .cell))=false):
  SX G n (.fn sc) (B7 G.P f (code x) fi c (code y)) (.Assign [.Name y py] (.ListComp elt [⟨.Name x px,iter,[ct],0⟩] scope pos) XB):=by
 intro T W m σ s fl aF Q E ok R ev P
 refine af ev fun a aY ev1 ev2=>?_;clear ev
 refine ab ev2 fun fV ev3 ev4=>?_;clear ev2
 cases ev4
 have bz:T.cx.comp=none:=ok.env.1
 have Vu:some (bQ aY (b8 (code y) a aY.loc))=some aF:=by
  have:(Option.rec (some (bQ aY (b8 (code y) a aY.loc))) (fun _=>none) T.cx.comp:Option St)=some aF:=ev3
  replace this:=bz▸this;exact this
 have dk:=aH Vu;clear Vu;subst dk
 refine NF (mR ev1) fun src aE xs as dO mm e1 e3 hs e6 e8 b7 cw=>?_;clear ev1 ev3;subst b7 cw
 refine tI (sM tM) fun hk hx iP pK lP=>?_
 refine ay (pj ok lP) fun cl vo dI=>?_
 have hsw:swapsWith (.ListComp elt [⟨.Name x px,iter,[ct],0⟩] scope pos) (some (.Name y py)) XB.line T.env=pure true:=by
  refine ok.env.MS fun _ h2 cn ba fa kX gu h3 h4 h5 _ _=>?_
  have hk2:T.env.kindOf y=some .local:=by refine aa h2 (aa h3 ?_);show ba.names.lookup y=_;refine aa h4 ?_;exact hy
  have hb:T.env.blockKind= .function:=by
   refine aa h2 (aa h3 ?_)
   show (if ba.kind.isAnnotationScope then ScopeKind.function else ba.kind)=_
   refine aa h5 ?_;rfl
  show (pure (T.env.blockKind == .function&&T.env.kindOf y==some .local&&py.line==pos.line && !(scope.names.any fun (n,k)=>n==y&&(k == .local||k == .cell))):Sem Bool)=_
  refine aa hk2 (aa hb (aa hl (aa W3 ?_)));rfl
 refine aa (exec_Assign_Name_used _ _ _ _ hsw) ?_
 refine wpAny_bind (wpAny_standAt (wpAny_bind ?_))
 show wpAny _ _ (do let _ <-comprehension (.ListComp elt [⟨.Name x px,iter,[ct],0⟩] scope pos) scope T.env _ (newList []) false (eval iter T.env) (some (assign (.Name y py) T.env))) _ _ s
 refine wpAny_bind (wpAny_mono (wpAny_comprehension_free (use:=some (assign (.Name y py) T.env)) (Q:=fun _ s'=>Q .next s') rfl (lX sT T.env) vo hk pK
  (hi T W m σ s src _ _ E ok R e1 fun W₁ aq ar bp ag ak aK=>?_)) (fun _ s' hq=>wpAny_pure (wpAny_pure hq)) fun _ _ e=>e)
 refine SrcR.out (oq (s:={s with heap:=aq,toks:=ar}) gk (ok.mono ag) ak aK e3) fun l ae oI fp P' Sp ax az S fin=>?_
 refine S.it _ _ ?_
 have Ge:T.L≠aq.objs.size:=Nat.ne_of_lt ak.fr.ns.lt
 have rest:=lG (s:={s with heap:=aq.push oI,toks:=ar}) (P:=P') ok (ag.trans ax) hk dI S.val hf hc xs.length 0 [] [] as ae _ aq (by omega) az (.refl _) trivial (by refine aa List.drop_zero ?_;exact e6)
 replace rest:=(List.nil_append ..)▸rest
 refine block_T (RR:=fun acc C=>compPost (model G.prog G.w) T.A E (some (assign (.Name y py) T.env)) (fun _ s'=>Q .next s') acc C) (S:=fun nw=>∀p∈l,p∈nw) (news:=ae.news (l++T.fz)) S.walks (by refine aa sizeLine_eq ?_;omega) S.io S.st iP hk hx S.ON (fun d hd=>by show d<(aq.push oI).objs.size;refine aa (Heap.size_push ..) ?_;exact S.fpb d hd)
  (az.fr.push oI) (fun p hp=>⟨Heap.get?_push_of_some _ (az.nw p hp).1,(az.nw p hp).2⟩) Ge (next_is_new ak.fr) (fun p hp=>Nat.ne_of_lt (Heap.lt_size (az.nw p hp).1)) (fun p hp=>iv (W:=ae) (sJ _ hp)) rest ?_
 intro D C h tk m' ys pd F' N' o1 hn nf vp Ji N7 MK xf fi
 refine mX fi fun W' UM dC R' jZ r=>?_;clear fi;subst dC
 have off:∀{z:List (Addr×Obj)},Off1 D z->∀p∈z,p.1≠D:=by
  intro z
  induction z with
  |nil=>intro _ p hp;exact zM hp
  |cons q z ih=>
   intro hz p hp
   rcases gn hp with rfl | hp
   ·exact hz.1
   ·exact ih hz.2 p hp
 have R2:(T.aD l).Rep G h m (W'.push D [(D,LCg.lst ys)]) (aB dO (dO.mem.push (.list as))):=(R'.heap F' fun p hp=>N' p (fw _ hp)).uE (l:=[(D,LCg.lst ys)]) F' N' (fun p hp q hq=>by refine aa (dU hq) ?_;exact off o1 p hp) (by simp) ⟨ys,_,rfl,r.mono (W'.aS _ _)⟩
 refine NH (id hn) fun oC z1 z2 hoC abK=>?_
 have cN:∀p∈(W'.push D [(D,LCg.lst ys)]).news (l++T.fz),p.1≠C:=fun p hp=>by
  rcases List.mem_append.mp ((mF W' D [(D,LCg.lst ys)] (l++T.fz)).mem_iff.mp hp) with hp | hp
  ·refine aa (dU hp) ?_;exact Ne.symm MK
  ·exact xf p hp
 have R3:((T.aD l).aD [(C,oC)]).Rep G h m (W'.push D [(D,LCg.lst ys)]) (aB dO (dO.mem.push (.list as))):=R2.pP (l:=[(C,oC)]) R2.fr (fun p hp=>by
  rcases gn hp with rfl | hp
  ·exact ⟨hoC,Ji,nf⟩
  ·exact R2.nw p hp) (fun p hp q hq=>by refine aa (dU hq) ?_;exact cN p hp) (by simp)
 have Yn:((T.aD l).aD [(C,oC)]).Ok G n (.fn sc) (W'.push D [(D,LCg.lst ys)]):=(((ok.mono (ag.trans ax)).mono (jZ.trans (W'.aS _ _))).aD l).aD [(C,oC)]
 have EB:(den G.P (fun _ _ _ _=>none) (fM (.fn sc) y)).asg (.o dO.mem.n) T.cx (aB dO (dO.mem.push (.list as)))=some (bQ (aB dO (dO.mem.push (.list as))) (b8 (code y) (.o dO.mem.n) dO.loc)):=by
  have:fM (.fn sc) y= .tn (code y):=by
   unfold fM
   dsimp only
   exact aa (cM ..) (aa (hy ..) rfl)
  refine aa this ?_
  show (Option.rec (some _) (fun _=>none) T.cx.comp:Option St)=_
  refine aa bz ?_;rfl
 show wpAny _ _ (assign (.Name y py) T.env (.ref D)) _ _ _
 refine jH y py (fun _ _ _ _=>none) ((T.aD l).aD [(C,oC)]) _ m _ {s with heap:=h,toks:=tk} (.o dO.mem.n) (.ref D) _ _ E Yn R3 (R'.eE D [(D,LCg.lst ys)]) EB fun bu gT bq aQ _ bj gA _=>?_
 refine fK (gA.Be (l:=[(C,oC)])) fun fr4 _ N4=>?_
 have mh:(T.aD l).Rep G bq gT bu _:=gA.kg (l:=[(C,oC)])
 refine ⟨m',⟨oC,z1,z2,(N4 (C,oC) (sJ _ cg)).1,abK⟩,fun jM Es=>?_⟩
 have gJ:(T.aD l).Rep G jM gT bu _:=mh.heap (mh.fr.change Es Ji nf) fun p hp=>⟨Es.extBut _ _ (fr4 p hp (C,oC) cg) (mh.nw p hp).1,(mh.nw p hp).2⟩
 refine ay (fin bu _ jM gT mm ((jZ.trans (W'.aS _ _)).trans bj) gJ e8) fun qA le7 adv=>?_
 exact P qA gT jM aQ _ ((((ag.trans ax).trans (jZ.trans (W'.aS _ _))).trans bj).trans le7) adv rfl
end
end
section
open PySem
noncomputable def oV(pi:List Nat)(r:R AV):Option (AV×Option AO×Fd):=Option.map (fun z=>(z.1,z.2.mem.get 0,fdOf pi z.2)) r
noncomputable def VO(c:Bool)(subs:List String)(loc:aL)(k:Nat):St:=⟨loc,Mem.of (br c subs),57+k⟩
noncomputable def agp:aL:=[f_ "manager" (.o 5),f_ "tasks" (.o 10),f_ "results" (.o 7),f_ "subs" (.o 6),f_ "kept" (.o 9)]
noncomputable def x8(p:bA)(nm:String)(subs:List String)(log:Bool):R AV:=cH p 30 (.k 684) [.o 5, .o 10,sA nm, .o 7, .o 6, .o 9, .bool log] [] (VO true subs [] 0)
noncomputable def good(c:Bool)(subs:List String)(sh:List PV):Option (AV×Option AO×Fd):=some (.bool true,some (.cell (.d 56)),lY bl c subs (sh.map some))
noncomputable def va:List Bool:=[true,false]
noncomputable def bits:List (Bool×Bool):=[(true,true),(true,false),(false,true),(false,false)]
noncomputable def yu:List Sb:=[⟨true,true,true⟩,⟨true,true,false⟩,⟨true,false,true⟩,⟨true,false,false⟩,⟨false,true,true⟩,⟨false,true,false⟩,⟨false,false,true⟩,⟨false,false,false⟩]
theorem Al:∀subs,(va.map fun l=>oV bl (x8 (pV .no) "V" subs l))=va.map fun _=>good true subs same:=fun subs=>by kernel_rfl
theorem Ak:∀subs,(bits.map fun b=>oV bl (x8 (pV (.yes b.1 b.2)) "V" subs true))=bits.map fun _=>good true subs same:=fun subs=>by kernel_rfl
theorem Aj:∀subs,(bits.map fun b=>oV bl (x8 (pV (.yes b.1 b.2)) "V" subs false))=bits.map fun _=>good true subs same:=fun subs=>by kernel_rfl
theorem Ao:(yu.map fun x=>va.map fun l=>oV bl (x8 (pU x.l .no) "U" x.l l))=yu.map fun x=>va.map fun _=>good true x.l same:=by kernel_rfl
theorem An:(yu.map fun x=>bits.map fun b=>oV bl (x8 (pU x.l (.yes b.1 b.2)) "U" x.l true))=yu.map fun x=>bits.map fun _=>good true x.l same:=by kernel_rfl
theorem Am:(yu.map fun x=>bits.map fun b=>oV bl (x8 (pU x.l (.yes b.1 b.2)) "U" x.l false))=yu.map fun x=>bits.map fun _=>good true x.l same:=by kernel_rfl
noncomputable def JF(p:bA)(nm:String)(subs:List String)(log:Bool):R AV:=cH p 30 (.k 684) [.o 5, .o 10,sA nm, .o 7, .o 6, .o 9, .bool log] [] (VO false subs [] 0)
noncomputable def EG(subs:List String)(sh:List PV):Option (AV×Option AO×Fd):=some (.bool true,some .cy,lY bl false subs (sh.map some))
noncomputable def zW:Sb:=⟨true,true,false⟩
theorem Dh:(va.map fun l=>(oV bl (JF (pU zW.l .no) "U" zW.l l),oV bl (JF (pV .no) "V" zW.l l)))=va.map fun _=>(EG zW.l same,EG zW.l same):=by kernel_rfl
end
section
open PySem PySem.W PySem.Calls PyProof.Rows PyProof.V PySem.Spec
noncomputable def bw(s:Stmt):Expr:=dR (xS s) 0
noncomputable def posOf(s:Stmt):Pos:=s.pos
noncomputable def Eo:Stmt:=cX
noncomputable def if1:Stmt:=bO (gr Eo) 0
noncomputable def if2:Stmt:=bO (gr if1) 0
noncomputable def xC:Stmt:=bO (gr if2) 0
noncomputable def MA:Stmt:=bO (gr xC) 0
noncomputable def asA:Stmt:=bO (bodyOf xC) 0
noncomputable def asB:Stmt:=bO (bodyOf xC) 1
noncomputable def Xi:Expr:=dR (xS asA) 0
noncomputable def FF:Expr:=dR (xE Xi) 0
noncomputable def x9:Scope:=match Xi with
 | .ListComp _ _ s _=>s
 |_=>(H.fS H.FN)
noncomputable def FE:Option Comprehension:=match Xi with
 | .ListComp _ gs _ _=>one gs
 |_=>none
noncomputable def tq:Expr:=Option.rec (.Constant .none 0 default) (fun g=>g.iter) FE
noncomputable def Nt:Expr:=Option.rec (.Constant .none 0 default) (fun g=>Option.rec (.Constant .none 0 default) id (one g.ifs)) FE
noncomputable def dT(P:bA)(e:Expr):Ts:=(den P (cH P 30) (cE aT (.fn aA) e)).ts
noncomputable def VB(P:bA)(l:List Stmt):Xc:=(den P (cH P 30) (tO aT (.fn aA) l)).qw
noncomputable def B5(P:bA):Xc:=B7 P (den P (cH P 30) (cE aT (.comp x9.names aA) FF)).ev (code (S "j")) (den P (cH P 30) (cE aT (.fn aA) tq)).ev (den P (cH P 30) (cE aT (.comp x9.names aA) Nt)).ts (code (S "subs"))
noncomputable def B6(P:bA):Xc:=NM (dT P (bw Eo)) (VB P (bodyOf Eo)) (jc (NM (dT P (bw if1)) (VB P (bodyOf if1)) (jc (NM (dT P (bw if2)) (VB P (bodyOf if2)) (jc (NM (dT P (bw xC)) (jc (B5 P) (jc (den P (cH P 30) (cS aT (.fn aA) asB)).ex n9)) (VB P (gr xC))) n9)) n9)) n9)
noncomputable def LK(x:Sb):bA:={aR with tags:=bB 70 [],ops:=[(.RShift,56,0, .d 58),(.Mod,58,2, .int (cond x.a 1 0)),(.RShift,56,1, .d 59),(.Mod,59,2, .int (cond x.b 1 0)),(.RShift,56,2, .d 60),(.Mod,60,2, .int (cond x.c 1 0))],kn:=56,spec:=spT []}
noncomputable def XM(x:Sb)(subs:List String):R AF:=B6 (LK x) cb ⟨lK 3,Mem.of (br true subs),58⟩
noncomputable def WQ:List Nat:=[0,1,2,3,4,5,48,7,8,9,10,11,53,13,14,15,16,17,18,19,20,21,22,23,24,55,56,57,59,60,54,62,63,64,65,58,36,37,38,39,40,41,42,43,44,45,46]
theorem Ac:∀subs,(yu.map fun x=>nD WQ lT (XM x subs))=yu.map fun x=>pX WQ lT (.d 56) x.l same:=fun subs=>by kernel_rfl
noncomputable def dA:bA:={aR with tags:=bB 70 [],kn:=56,spec:=spT []}
noncomputable def WO:List Nat:=[0,1,2,47,48,49,6,7,8,9,10,11,12,13,14,15,16,17,18,19,20,21,22,23,24,25,26,27,28,29,30,31,32,33,34,35,36,37,38,39,40,41,42,43,44,45,46]
noncomputable def X4(x:Q4)(r3:Int):bA:={aR with tags:=bB 70 [(0, .none)],ops:=Ax 56 58 x r3,kn:=56,spec:=spT [(0, .none)]}
noncomputable def ke(kd:Int):aL:=bC [f_ "good" (.bool true),f_ "kind" (.int kd)] ++ [f_ "i" (.d 57)]
theorem Ai:∀subs kd,(BN.map fun x=>Dw.map fun r3=>nD bl (ke kd) (sg (X4 x r3) (bO iQ 0) true subs (ke kd) 1))=BN.map fun x=>Dw.map fun r3=>pX bl (ke kd) (.d 56) subs (mA same (ly 0 58 x r3 none)):=fun subs kd=>by kernel_rfl
noncomputable def X3:bA:={aR with tags:=bB 70 [(0, .nn)],kn:=56,spec:=spT [(0, .nn)]}
theorem wU:∀subs kd,nD bl (ke kd) (sg X3 (bO iQ 0) true subs (ke kd) 1)=pX bl (ke kd) (.d 56) subs same:=fun subs kd=>by kernel_rfl
theorem C3:∀subs kd,nD WO lT (sg dA (bO iQ 3) true subs (ke kd) 1)=pX WO lT (.d 56) subs same:=fun subs kd=>by kernel_rfl
theorem eH(ha:56<=a)(hk:0<k)(hk':k.natAbs<2 ^ 20)(h:v= .int (J a%k)\/∃j,v= .d j/\56<=j/\J j=J a%k):IA J (.Mod,a,k,v):=⟨J a%k,ha,if_pos hk,hk',h⟩
theorem nP(ha:56<=a)(hb:56<=b)(h4:J a%4=x.i)(h3:J a%3=r3)(hd:x.gX=true->J b=J a%2/\J (b+1)=J a%5)(ht:x.gX=false->J b=J a%5):∀p∈Ax a b x r3,IA J p:=by
 unfold Ax
 refine all_cons (eH ha (by decide) (by decide) (.inl (by exact aa h4 rfl))) (all_cons (eH ha (by decide) (by decide) (.inl (by exact aa h3 rfl))) ?_)
 generalize h:x.gX=bZ;induction bZ with
 |true=>exact all_cons (eH ha (by decide) (by decide) (.inr ⟨b,rfl,hb,(hd h).1⟩)) (all_cons (eH ha (by decide) (by decide) (.inr ⟨b+1,rfl,by omega,(hd h).2⟩)) all_nil)
 |false=>exact all_cons (eH ha (by decide) (by decide) (.inr ⟨b,rfl,hb,ht h⟩)) all_nil
theorem yw(ha:56<=a)(hb:56<=b)(h4:J a%4=x.i)(h3:J a%3=r3)(hd:x.gX=true->J b=J a%2/\J (b+1)=J a%5)(ht:x.gX=false->J b=J a%5):aX r J (uJ a b x r3):=
 oF rfl rfl rfl rfl rfl rfl rfl rfl rfl rfl rfl (fun _ _ _ _ _ e=>fR (nP ha hb h4 h3 hd ht) e) (bR rfl)
theorem Aq{J:Nat->Int}{k:Nat}(h:J 56%7=k):aX r J (sz k):=
 oF rfl rfl rfl rfl rfl rfl rfl rfl rfl rfl rfl (fun _ _ _ _ _ e=>fR (all_cons (eH (zd rfl) (by decide) (by decide) (.inl (by exact aa h rfl))) all_nil) e) (bR rfl)
theorem hQ:aX r J dA:=oF rfl rfl rfl rfl rfl rfl rfl rfl rfl rfl rfl (gS rfl) (bR rfl)
noncomputable def Tx.of:Q4->Tx
 | .r=> .r | _=> .s
noncomputable def hW(q:Int)(x:Q4):Res:=bif x.gX then .d (q%2) else .t (Tx.of x)
theorem nM(q:Int)(x:Q4):hW q x≠ .none:=by unfold hW;cases x.gX<;>exact nofun
noncomputable def nz(q:Int)(r3:Int):Option Int:=bif decide (r3=0) then none else some (q%5)
noncomputable def Rec.put(r:Rec)(k:Nat)(a:Res)(v:Option Int):Rec:={r with res:=fun j=>bif Nat.beq j k then a else r.res j,val:=fun j=>bif Nat.beq j k then v else r.val j}
theorem Rec.oP{r:Rec}(ok:r.Ok)(hk:k<5)(ha:a≠ .none):(r.put k a v).Ok:=by
 have h:∀j,5<=j->(r.put k a v).res j=r.res j:=fun j hj=>by
  show (bif Nat.beq j k then a else r.res j)=_
  refine aa (show Nat.beq j k=false from Bool.eq_false_iff.mpr fun e=>by have:=iL e;omega) ?_;rfl
 have h':∀j,5<=j->(r.put k a v).val j=r.val j:=fun j hj=>by
  show (bif Nat.beq j k then v else r.val j)=_
  refine aa (show Nat.beq j k=false from Bool.eq_false_iff.mpr fun e=>by have:=iL e;omega) ?_;rfl
 refine ⟨by refine aa (h 5 (zd rfl)) ?_;exact ok.u,by refine aa (h 6 (zd rfl)) ?_;exact ok.v,ok.um,ok.vm,fun j e=>?_,fun p e=>by refine aa (h' 5 (zd rfl)) ?_;exact ok.vu p e,fun p e=>by refine aa (h' 6 (zd rfl)) ?_;exact ok.vv p e⟩
 have e:(bif Nat.beq j k then a else r.res j)= .none:=e
 show (bif Nat.beq j k then v else r.val j)=none
 generalize q:Nat.beq j k=ir;induction ir with
 |true=>replace e:=q▸e;exact absurd e ha
 |false=>replace e:=q▸e;exact ok.vn j e
theorem ud(f:α->β):∀(l:List α) (i:Nat) (a:α),(lz l i a).map f=lz (l.map f) i (f a)
 | [],_,_=>rfl
 |x::l,0,a=>rfl
 |x::l,i+1,a=>congrArg (f x :: ·) (ud f l i a)
theorem hM:∀u:List (Nat×PV),List.map f (List.rec l (fun p _ ih=>lz ih p.1 p.2) u)=List.rec (l.map f) (fun p _ ih=>lz ih p.1 p.2) (u.map fun p=>(p.1,f p.2))
 | []=>rfl
 |p::u=>by
  show List.map f (lz (List.rec l (fun p _ ih=>lz ih p.1 p.2) u) p.1 p.2)=lz (List.rec (l.map f) (fun p _ ih=>lz ih p.1 p.2) (u.map fun p=>(p.1,f p.2))) p.1 (f p.2)
  exact aa (ud ..) (aa (hM u ..) rfl)
theorem uw(r:Rec)(hk:k<5)(ha:a≠ .none)(v:Option Int):(List.rec (iU r) (fun p _ ih=>lz ih p.1 p.2) [(k,a.eA),(14+4*k,a.st),(7+k,ku v),(15+4*k,ku v),(16+4*k,PV.str (S "MD5Checker")),(17+4*k,PV.tup .nil)]:List PV)=iU (r.put k a v):=by
 induction a with
 |none=>exact absurd rfl ha
 |_=>exact lt5 hk rfl rfl rfl rfl rfl
noncomputable def Mk.of(r3:Int):Mk:=cond (decide (r3=0)) .e (cond (decide (r3=1)) .h .g)
theorem nN(r:Rec)(J:Nat->Int)(hk:k<5)(hb:56<=b)(hd:x.gX=true->J b=q%2/\J (b+1)=q%5)(ht:x.gX=false->J b=q%5):
  (mA same (ly k b x r3 none)).map (cC (aW r J))=iU (r.put k (hW q x) (nz q r3)):=by
 have pb:∀i,56<=i->aW r J i= .int (J i):=fun i hi=>if_neg (by omega)
 have hv:cC (aW r J) (.dict (bif decide (r3=0) then .nil else .ent (S "n") (.int (bif x.gX then (b+1:Nat) else (b:Nat))) .nil))=ku (nz q r3):=by
  unfold nz
  cases decide (r3=0) with
  |true=>rfl
  |false=>
   generalize h:x.gX=bZ;induction bZ with
   |true=>
    show PV.dict (.ent (S "n") (aW r J (b+1)) .nil)=_
    refine aa (pb _ (by omega)) (aa ((hd h).2) ?_);rfl
   |false=>
    show PV.dict (.ent (S "n") (aW r J b) .nil)=_
    refine aa (pb _ hb) (aa (ht h) ?_);rfl
 have qZ:hW q x≠ .none:=by unfold hW;cases x.gX<;>exact nofun
 have hl:cC (aW r J) (bif x.gX then WK b else .tup (.cons (.str (S "text")) (.cons (.str (S (txt x))) .nil)))=(hW q x).eA:=by
  unfold hW
  induction x with
  |r=>rfl
  |s=>rfl
  |d0=>show PV.dict (.ent (S "k") (aW r J b) _)=_;refine aa (pb _ hb) (aa ((hd rfl).1) ?_);rfl
  |d1=>show PV.dict (.ent (S "k") (aW r J b) _)=_;refine aa (pb _ hb) (aa ((hd rfl).1) ?_);rfl
 have hs:cC (aW r J) (bif x.gX then WK b else .str (S (txt x)))=(hW q x).st:=by
  unfold hW
  induction x with
  |r=>rfl
  |s=>rfl
  |d0=>show PV.dict (.ent (S "k") (aW r J b) _)=_;refine aa (pb _ hb) (aa ((hd rfl).1) ?_);rfl
  |d1=>show PV.dict (.ent (S "k") (aW r J b) _)=_;refine aa (pb _ hb) (aa ((hd rfl).1) ?_);rfl
 refine aa (Eq.symm (uw r hk qZ ..)) (aa (Eq.symm (hl ..)) (aa (Eq.symm (hs ..)) (aa (Eq.symm (hv ..)) (aa (Eq.symm (bH r J ..)) ?_))))
 exact hM (f:=cC (aW r J)) (l:=same) (ly k b x r3 none)
noncomputable def DG:aL:=bC [f_ "good" (.bool true)]
theorem fH:∀p∈DG,cJ 47 p.2=true/\cV bl p.2=p.2:=yx (all_cons ⟨rfl,rfl⟩ all_nil)
section
theorem ky(tG:eb G)(bz:T.cx=cb)(hn:35<=n)(xF:ah (code (S "i")) pre=none) (MB:∀p∈pre',cJ 47 p.2=true/\cV bl p.2=p.2) (inv:Inv G T n aA r true m s.heap (pre ++ [f_ "i" (.int i)]) W) (k:aX r J P) (y0:J 56=r.q) (qt:J 57=i) {st:Stmt}
  (run:nD bl (pre' ++ [f_ "i" (.d 57)]) (sg P st true r.x.l (pre ++ [f_ "i" (.d 57)]) 1)=pX bl (pre' ++ [f_ "i" (.d 57)]) (.d 56) r'.x.l sh) (Ga:sh.map (cC (aW r J))=iU r') (hq:r'.q=r.q) (ok:r'.Ok)
  (post:∀ae m' h' tk,Inv G T n aA r' true m' h' (pre' ++ [f_ "i" (.int i)]) ae->Q .next {s with heap:=h',toks:=tk}):wpAny (model G.prog G.w) T.A (exec st T.env) Q E s:=by
 refine aU (kG inv.rep.loc xF inv.rep.n3) fun t hl=>?_
 refine jC (sf run) fun aF e1 e2 e3 e4=>?_
 refine qI (qs:=[(i,t)]) tG inv hn k y0 (fun j p e=>?_) hl (show (den P (cH P 30) (cS G.gl (.fn aA) st)).ex T.cx _=_ by refine aa tG.gl (aa bz ?_);exact e1)
  (⟨eG,gi,⟨sh,e4,Ga⟩,fun _=>⟨56,e2,by omega,by exact aa y0 (aa hq rfl)⟩,ok,nR (pre:=pre') MB e3 qt⟩:Leave r r' J bl true (pre' ++ [f_ "i" (.int i)]) aF) fun W₁ ae m' h' tk fv rf bF=>?_
 ·match j,e with
  | 0,e=>have b7:=aH e;clear e;clear e;subst b7;exact qt
 ·subst rf
  exact post ae m' h' tk bF
theorem jF(tG:eb G)(bz:T.cx=cb)(hn:35<=n)(xF:ah (code (S "i")) pre=none) (inv:Inv G T n aA r true m s.heap (pre ++ [f_ "i" (.int i)]) W) (k:aX r J P) (y0:J 56=r.q) (qt:J 57=i) {st:Stmt}
  (run:nD bl lT (sg P st true r.x.l (pre ++ [f_ "i" (.d 57)]) 1)=pX bl lT (.d 56) r'.x.l sh) (Ga:sh.map (cC (aW r J))=iU r') (hq:r'.q=r.q) (ok:r'.Ok)
  (post:∀ae m' h' tk,Inv G T n aA r' true m' h' (jY i) ae->Q .next {s with heap:=h',toks:=tk}):wpAny (model G.prog G.w) T.A (exec st T.env) Q E s:=
 ky (pre':=DG) tG bz hn xF fH inv k y0 qt run Ga hq ok post
end
theorem sI(q:Int){n:Nat}(h:(0:Int)<n):q%(n:Int)∈(List.range n).map fun (k:Nat)=>(k:Int):=
 have h1:=Int.emod_nonneg q (Int.ne_of_gt h)
 List.mem_map.mpr ⟨(q%n).toNat,List.mem_range.mpr ((Int.toNat_lt h1).mpr (Int.emod_lt_of_pos q h)),Int.toNat_of_nonneg h1⟩
theorem uv(q:Int):∃x:Q4,q%4=x.i/\x∈BN:=
 have ⟨x,hx,e⟩:=nS (show q%4∈BN.map Q4.i from sI q (n:=4) (by decide))
 ⟨x,e.symm,hx⟩
theorem uu(q:Int):q%3∈Dw:=sI q (n:=3) (by decide)
noncomputable def Jq(q i:Int)(x:Q4):Nat->Int:=Jl (q::i::bif x.gX then [q%2,q%5] else [q%5])
section
theorem wH(tG:eb G)(bz:T.cx=cb)(hn:35<=n)(inv:Inv G T n aA r true m s.heap (bC [f_ "good" (.bool true),f_ "kind" (.int 0)] ++ [f_ "i" (.int i)]) W)
  (post:∀a v ae m' h' tk,a≠ .none->Inv G T n aA (r.put 0 a v) true m' h' (jY i) ae->Q .next {s with heap:=h',toks:=tk}):wpAny (model G.prog G.w) T.A (exec cX T.env) Q E s:=by
 refine ay (uv r.q) fun x hx hm=>?_
 have hd:x.gX=true->Jq r.q i x 58=r.q%2/\Jq r.q i x (58+1)=r.q%5:=fun h=>by unfold Jq;refine aa h ?_;exact ⟨rfl,rfl⟩
 have ht:x.gX=false->Jq r.q i x 58=r.q%5:=fun h=>by unfold Jq;refine aa h ?_;rfl
 refine jF (J:=Jq r.q i x) (P:=uJ 56 58 x (r.q%3)) (r':=r.put 0 (hW r.q x) (nz r.q (r.q%3))) tG bz hn (by decide +kernel) inv (yw (zd rfl) (zd rfl) hx rfl hd ht) rfl rfl (aw (aw (Aa r.x.l) x hm) _ (uu r.q)) (nN r _ (zd rfl) (zd rfl) hd ht) rfl (Rec.oP inv.ok (zd rfl) (nM _ _)) fun ae m' h' tk bF=>post _ _ ae m' h' tk ?_ bF
 unfold hW
 cases x.gX<;>exact nofun
end
noncomputable def Rec.forget(r:Rec)(k:Nat):Rec:={r with res:=fun j=>bif Nat.beq j k then .none else r.res j,val:=fun j=>bif Nat.beq j k then none else r.val j,kU:=bif Nat.beq k 5 then none else r.kU,kV:=bif Nat.beq k 6 then none else r.kV}
theorem vz(r:Rec)(J:Nat->Int)(hk:k<7):(mA same (wL k)).map (cC (aW r J))=iU (r.forget k):=by
 have h:=hM (f:=cC (aW r J)) (l:=same) (wL k)
 refine Eq.trans (show _=_ from h) ?_
 refine aa (bH r J) ?_
 exact Mh hk rfl rfl rfl rfl rfl rfl rfl
theorem Bf{r:Rec}(ok:r.Ok)(hk:k<7):(r.forget k).Ok:=by
 have ne:∀j,j≠k->(r.forget k).res j=r.res j:=fun j hj=>by
  show (bif Nat.beq j k then Res.none else r.res j)=_
  refine aa (show Nat.beq j k=false from Bool.eq_false_iff.mpr fun e=>hj (iL e)) ?_;rfl
 have hU:k≠5->(r.forget k).kU=r.kU:=fun h=>by
  show (bif Nat.beq k 5 then none else r.kU)=_
  refine aa (show Nat.beq k 5=false from Bool.eq_false_iff.mpr fun e=>h (iL e)) ?_;rfl
 have hV:k≠6->(r.forget k).kV=r.kV:=fun h=>by
  show (bif Nat.beq k 6 then none else r.kV)=_
  refine aa (show Nat.beq k 6=false from Bool.eq_false_iff.mpr fun e=>h (iL e)) ?_;rfl
 have nv:∀j,j≠k->(r.forget k).val j=r.val j:=fun j hj=>by
  show (bif Nat.beq j k then none else r.val j)=_
  refine aa (show Nat.beq j k=false from Bool.eq_false_iff.mpr fun e=>hj (iL e)) ?_;rfl
 refine ⟨?_,?_,fun m g e=>?_,fun u m e=>?_,fun j e=>?_,fun p e=>?_,fun p e=>?_⟩
 ·by_cases h:k=5
  ·subst h;exact ⟨fun _=>rfl,fun _=>rfl⟩
  ·refine aa (ne 5 (Ne.symm h)) (aa (hU h) ?_);exact ok.u
 ·by_cases h:k=6
  ·subst h;exact ⟨fun _=>rfl,fun _=>rfl⟩
  ·refine aa (ne 6 (Ne.symm h)) (aa (hV h) ?_);exact ok.v
 ·by_cases h:k=5
  ·subst h;exact zS e
  ·replace e:=(hU h)▸e;exact ok.um m g e
 ·by_cases h:k=6
  ·subst h;exact zS e
  ·replace e:=(hV h)▸e;exact ok.vm u m e
 ·by_cases h:j=k
  ·subst h
   show (bif Nat.beq j j then none else r.val j)=none
   refine aa (show Nat.beq j j=true from Nat.beq_refl j) ?_;rfl
  ·refine aa (nv j h) ?_;replace e:=(ne j h)▸e;exact ok.vn j e
 ·by_cases h:k=5
  ·subst h;exact zS e
  ·replace e:=(hU h)▸e;refine aa (nv 5 (Ne.symm h)) ?_;exact ok.vu p e
 ·by_cases h:k=6
  ·subst h;exact zS e
  ·replace e:=(hV h)▸e;refine aa (nv 6 (Ne.symm h)) ?_;exact ok.vv p e
section
theorem step_forget(tG:eb G)(bz:T.cx=cb)(hn:35<=n)(inv:Inv G T n aA r true m s.heap (bC [f_ "good" (.bool true),f_ "kind" (.int 2)] ++ [f_ "i" (.int i)]) W)
  (post:∀k ae m' h' tk,k<7->Inv G T n aA (r.forget k) true m' h' (jY i) ae->Q .next {s with heap:=h',toks:=tk}):wpAny (model G.prog G.w) T.A (exec cX T.env) Q E s:=by
 obtain ⟨k,hk,h7⟩:∃k:Nat,r.q%7=k/\k<7:=⟨(r.q%7).toNat,by have:=Int.emod_nonneg r.q (by decide:(7:Int)≠0);omega,by have:=Int.emod_lt_of_pos r.q (by decide:(0:Int)<7);omega⟩
 exact jF (J:=Jl [r.q,i]) (P:=sz k) (r':=r.forget k) tG bz hn (by decide +kernel) inv (Aq hk) rfl rfl (aw (wR r.x.l) k (List.mem_range.mpr h7)) (vz r _ h7) rfl (Bf inv.ok h7) fun ae m' h' tk bF=>post k ae m' h' tk h7 bF
theorem DE(r:Rec)(J:Nat->Int)(hb:56<=b)(hd:x.gX=true->J b=q%2/\J (b+1)=q%5)(ht:x.gX=false->J b=q%5):
  (mA same (ly 0 b x r3 (some (D4 r3)))).map (cC (aW r J))=iU (r.put 0 (.m (Mk.of r3)) (nz q r3)):=by
 have pb:∀i,56<=i->aW r J i= .int (J i):=fun i hi=>if_neg (by omega)
 have hv:cC (aW r J) (.dict (bif decide (r3=0) then .nil else .ent (S "n") (.int (bif x.gX then (b+1:Nat) else (b:Nat))) .nil))=ku (nz q r3):=by
  unfold nz
  cases decide (r3=0) with
  |true=>rfl
  |false=>
   generalize h:x.gX=bZ;induction bZ with
   |true=>
    show PV.dict (.ent (S "n") (aW r J (b+1)) .nil)=_
    refine aa (pb _ (by omega)) (aa ((hd h).2) ?_);rfl
   |false=>
    show PV.dict (.ent (S "n") (aW r J b) .nil)=_
    refine aa (pb _ hb) (aa (ht h) ?_);rfl
 have hl:PV.str (S (D4 r3))=(Res.m (Mk.of r3)).eA:=by
  unfold D4 Mk.of
  cases decide (r3=0)<;>cases decide (r3=1)<;>rfl
 refine aa (Eq.symm (uw r (zd rfl) (a:= .m (Mk.of r3)) nofun ..)) (aa (Eq.symm (hv ..)) (aa (Eq.symm (bH r J ..)) (aa (show (Res.m (Mk.of r3)).st=(Res.m (Mk.of r3)).eA from rfl) (aa (Eq.symm (hl ..)) ?_))))
 exact hM (f:=cC (aW r J)) (l:=same) (ly 0 b x r3 (some (D4 r3)))
theorem wF(tG:eb G)(bz:T.cx=cb)(hn:35<=n)(inv:Inv G T n aA r true m s.heap (bC [f_ "good" (.bool true),f_ "kind" (.int 7)] ++ [f_ "i" (.int i)]) W)
  (post:∀a v ae m' h' tk,a≠ .none->Inv G T n aA (r.put 0 a v) true m' h' (jY i) ae->Q .next {s with heap:=h',toks:=tk}):wpAny (model G.prog G.w) T.A (exec cX T.env) Q E s:=by
 refine ay (uv r.q) fun x hx hm=>?_
 have hd:x.gX=true->Jq r.q i x 58=r.q%2/\Jq r.q i x (58+1)=r.q%5:=fun h=>by unfold Jq;refine aa h ?_;exact ⟨rfl,rfl⟩
 have ht:x.gX=false->Jq r.q i x 58=r.q%5:=fun h=>by unfold Jq;refine aa h ?_;rfl
 exact jF (J:=Jq r.q i x) (P:=uJ 56 58 x (r.q%3)) (r':=r.put 0 (.m (Mk.of (r.q%3))) (nz r.q (r.q%3))) tG bz hn (by decide +kernel) inv (yw (zd rfl) (zd rfl) hx rfl hd ht) rfl rfl (aw (aw (z8 r.x.l) x hm) _ (uu r.q)) (DE r _ (zd rfl) hd ht) rfl (Rec.oP (k:=0) inv.ok (zd rfl) (a:= .m (Mk.of (r.q%3))) (fun h=>nomatch h)) fun ae m' h' tk bF=>post (.m (Mk.of (r.q%3))) _ ae m' h' tk (fun h=>nomatch h) bF
end
noncomputable def V6:Pos:=match asA with
 | .Assign [.Name _ p] _ _=>p
 |_=>default
noncomputable def adq:Pos:=match asA with
 | .Assign _ _ p=>p
 |_=>default
noncomputable def JI:Pos:=match Xi with
 | .ListComp _ _ _ p=>p
 |_=>default
noncomputable def ads:Pos:=match FE with
 |some ⟨.Name _ p,_,_,_⟩=>p
 |_=>default
noncomputable def V7:Stmt:= .Assign [.Name (S "subs") V6] (.ListComp FF [⟨.Name (S "j") ads,tq,[Nt],0⟩] x9 JI) adq
theorem Fv:cX= .If (bw Eo) (bodyOf Eo) [.If (bw if1) (bodyOf if1) [.If (bw if2) (bodyOf if2) [.If (bw xC) [V7,asB] (gr xC) (posOf xC)] (posOf if2)] (posOf if1)] (posOf Eo):=by kernel_rfl
theorem V3:xu x9 (code (S "j")) (.fn aA)=true/\bT tq=false/\Nat.beq (code (S "subs")) Vz=false/\(V6.line==JI.line)=true/\(x9.names.any fun (n,k)=>n==S "subs" && (k == .local||k == .cell))=false:=by
 refine ⟨?_,?_,?_,?_,?_⟩<;>kernel_rfl
theorem wC:aA.lookup (S "subs")=some .local:=by kernel_rfl
theorem zV(ga:j6 G N)(io:dn G)(nF:G.gl=aT):SX G (30+N) (.fn aA) (B6 G.P) cX:=by
 have oe:=xd ga.gk ga.ca io (du ga io 30)
 have ot:∀e,zQ G (30+N) (.fn aA) (dT G.P e) e:=fun e=>by have:=(oe e (.fn aA)).2;replace this:=nF▸this;exact this
 have os:∀l,BF G (30+N) (.fn aA) (VB G.P l) l:=fun l=>by have:=uO ga.gk ga.ca oe l (.fn aA);replace this:=nF▸this;exact this
 have ox:∀st,SX G (30+N) (.fn aA) (den G.P (cH G.P 30) (cS aT (.fn aA) st)).ex st:=fun st=>by have:=IZ ga.gk ga.ca oe st (.fn aA);unfold ya at this;replace this:=nF▸this;exact this
 refine tI V3 fun a1 a2 a3 a4 a5=>?_
 have hg:SX G (30+N) (.fn aA) (B5 G.P) V7:=by
  have h1:=(oe tq (.fn aA)).1
  have h2:=(oe FF (.comp x9.names aA)).1
  have h3:=(oe Nt (.comp x9.names aA)).2
  replace h1:=nF▸h1;replace h2:=nF▸h2;replace h3:=nF▸h3
  exact GL ga.gk a1 a2 h1 h2 h3 wC a3 a4 a5
 refine aa Fv ?_
 exact t8 (ot _) (os _) (hG (t8 (ot _) (os _) (hG (t8 (ot _) (os _) (hG (t8 (ot _) (hG hg (hG (ox _) lr)) (os _)) lr)) lr)) lr)
theorem vb{σ:St}{J:Nat->Int}(hp:∀p∈pre,cJ 47 p.2=true/\cV bl p.2=p.2)(h:((pre ++ [f_ "i" (.d 57)]).map (fun p=>ah p.1 σ.loc)=(pre ++ [f_ "i" (.d 57)]).map fun p=>some (cV pi p.2))) (hJ:J 57=i):
  ∀x v,ah x (pre ++ [f_ "i" (.int i)])=some v->(ah x σ.loc=some (cV pi v)/\cJ 47 v=true)\/∃j,ah x σ.loc=some (.d j)/\56<=j/\v= .int (J j):=by
 intro x v e
 rcases List.mem_append.mp (aO e) with hm | hm
 ·exact .inl ⟨aw h (x,v) (sJ _ hm),(hp _ hm).1⟩
 ·have e2:=aw h (f_ "i" (.d 57)) (List.mem_append_right _ cg)
  have e3:(x,v)=f_ "i" (.int i):=dU hm
  cases e3
  exact .inr ⟨57,e2,by omega,by exact aa hJ rfl⟩
noncomputable def odd(x:Int):Bool:=decide (x%2=1)
theorem sE(x:Int):x%2=cond (odd x) 1 0:=by
 unfold odd
 by_cases h:x%2=1
 ·refine aa (decide_eq_true h) ?_;exact h
 ·refine aa (decide_eq_false h) ?_
  have h1:=Int.emod_nonneg x (by decide:(2:Int)≠0)
  have h2:=Int.emod_lt_of_pos x (by decide:(0:Int)<2)
  show x%2=0;omega
noncomputable def NP(q:Int):Sb:=⟨odd (mz q 0),odd (mz q 1),odd (mz q 2)⟩
theorem G5(q:Int):NP q∈yu:=nK _
noncomputable def Jg(q i:Int):Nat->Int:=Jl [q,i,mz q 0,mz q 1,mz q 2]
theorem K6(ok:r.Ok)(i:Int):aX r (Jg r.q i) (LK (NP r.q)):=by
 refine oF rfl rfl rfl rfl rfl rfl rfl rfl rfl rfl rfl (fun _ _ _ _ _ e=>fR ?_ e) (bR rfl)
 have sh:∀(j:Nat) (m:Int),0<=m->m.natAbs<2 ^ 20->56<=j->Jg r.q i j=mz r.q m->IA (Jg r.q i) (.RShift,56,m, .d j):=fun j m h1 h2 h3 h4=>⟨mz r.q m,Nat.le_refl 56,if_pos h1,h2, .inr ⟨j,rfl,h3,h4⟩⟩
 have md:∀(j:Nat) (m:Int),(m=0\/m=1\/m=2)->56<=j->Jg r.q i j=mz r.q m->IA (Jg r.q i) (.Mod,j,2, .int (cond (odd (mz r.q m)) 1 0)):=fun j m h1 h3 h4=>eH h3 (by decide) (by decide) (.inl (by exact aa (h4 ..) (aa (sE ..) rfl)))
 exact all_cons (sh 58 0 (by decide) (by decide) (zd rfl) rfl) (all_cons (md 58 0 (.inl rfl) (zd rfl) rfl) (all_cons (sh 59 1 (by decide) (by decide) (zd rfl) rfl) (all_cons (md 59 1 (.inr (.inl rfl)) (zd rfl) rfl) (all_cons (sh 60 2 (by decide) (by decide) (zd rfl) rfl) (all_cons (md 60 2 (.inr (.inr rfl)) (zd rfl) rfl) all_nil)))))
section
theorem wI(tG:eb G)(bz:T.cx=cb)(hn:35<=n)(inv:Inv G T n aA r true m s.heap (bC [f_ "good" (.bool true),f_ "kind" (.int 3)] ++ [f_ "i" (.int i)]) W)
  (post:∀x ae m' h' tk,Inv G T n aA {r with x:=x} true m' h' (jY i) ae->Q .next {s with heap:=h',toks:=tk}):wpAny (model G.prog G.w) T.A (exec cX T.env) Q E s:=by
 refine aU (kG inv.rep.loc (by decide +kernel) inv.rep.n3) fun t hl=>?_
 refine jC (sf (aw (Ac r.x.l) (NP r.q) (G5 r.q))) fun aF e1 e2 e3 e4=>?_
 refine oo (qs:=[(i,t)]) (J:=Jg r.q i) (P:=LK (NP r.q)) (r':={r with x:=NP r.q}) (pi:=WQ) tG inv hn (K6 inv.ok i) rfl (fun j p e=>?_) hl (fun ga io=>zV ga io tG.gl) (by refine aa bz ?_;exact e1)
  (⟨rfl,by decide,⟨same,e4,rfl⟩,fun _=>⟨56,e2,by omega,rfl⟩,⟨inv.ok.u,inv.ok.v,inv.ok.um,inv.ok.vm,inv.ok.vn,inv.ok.vu,inv.ok.vv⟩,vb (pre:=DG) fH e3 rfl⟩:Leave r {r with x:=NP r.q} (Jg r.q i) WQ true (jY i) aF) fun W₁ ae m' h' tk fv rf bF=>?_
 ·match j,e with
  | 0,e=>have b7:=aH e;clear e;clear e;subst b7;rfl
 ·subst rf
  exact post _ ae m' h' tk bF
theorem CI(tG:eb G)(bz:T.cx=cb)(hn:35<=n){kd:Int}(inv:Inv G T n aA r true m s.heap (bC [f_ "good" (.bool true),f_ "kind" (.int kd)] ++ [f_ "i" (.int i)]) W)
  (post:∀ae m' h' tk,Inv G T n aA r true m' h' (jY i) ae->Q .next {s with heap:=h',toks:=tk}):wpAny (model G.prog G.w) T.A (exec (bO iQ 3) T.env) Q E s:=by
 refine aU (kG inv.rep.loc (by kernel_rfl) inv.rep.n3) fun t hl=>?_
 refine jC (sf (C3 r.x.l kd)) fun aF e1 e2 e3 e4=>?_
 refine qI (qs:=[(i,t)]) (J:=Jl [r.q,i]) (P:=dA) (r':=r) (pi:=WO) tG inv hn hQ rfl (fun j p e=>?_) hl (by refine aa tG.gl (aa bz ?_);exact e1)
  (⟨rfl,by decide,⟨same,e4,rfl⟩,fun _=>⟨56,e2,by omega,rfl⟩,inv.ok,vb (pre:=DG) fH e3 rfl⟩:Leave r r (Jl [r.q,i]) WO true (jY i) aF) fun W₁ ae m' h' tk fv rf bF=>?_
 ·match j,e with
  | 0,e=>have cw:=aH e;clear e;clear e;subst cw;rfl
 ·subst rf
  exact post ae m' h' tk bF
end
noncomputable def Iz(J:Nat->Int)(p:Operator×Nat×Nat×AV):Prop:=∃y,56<=p.2.1/\56<=p.2.2.1/\eU p.1 (J p.2.1) (J p.2.2.1)=some y/\(J p.2.2.1).natAbs<2 ^ 20/\(p.2.2.2= .int y\/∃j,p.2.2.2= .d j/\56<=j/\J j=y)
theorem sC:∀{l:List (Operator×Nat×Nat×AV)},(∀p∈l,Iz J p)->kc op i k nd l=some v->∃y,56<=i/\56<=k/\eU op (J i) (J k)=some y/\(J k).natAbs<2 ^ 20/\(v= .int y\/∃j,v= .d j/\56<=j/\J j=y)
 | [],_,e=>zS e
 |(o,a,b,c)::l,h,e=>by
  have e':(Bool.rec (kc op i k nd l) (some c) (mG o op&&Nat.beq a i&&Nat.beq b k&&okN nd c):Option AV)=some v:=e
  generalize q:(mG o op&&Nat.beq a i&&Nat.beq b k&&okN nd c)=bZ;induction bZ with
  |true=>
   replace e':=q▸e'
   have cw:=aH e';clear e';subst cw
   replace q:=(Bool.and_eq_true ..)▸q;replace q:=(Bool.and_eq_true ..)▸q;replace q:=(Bool.and_eq_true ..)▸q
   refine aM q fun b7 _=>?_;clear q;obtain ⟨⟨q1,q2⟩,q3⟩:=b7
   have:=h _ cg
   cases of_decide_eq_true q1
   cases iL q2
   cases iL q3
   exact this
  |false=>replace e':=q▸e';exact sC (fun p hp=>h p (fw _ hp)) e'
noncomputable def J1(q i:Int)(x:Q4):Nat->Int:=Jl (q::i::q/4::(q/4+i)::bif x.gX then [(q/4+i)%2,(q/4+i)%5] else [(q/4+i)%5])
theorem L3(h:1<=k/\k<=4):∃s,(k,s)∈WU:=
 have q:k-1<4:=Nat.lt_of_succ_le ((Nat.sub_add_cancel h.1).symm▸h.2)
 have z:k∈(List.range 4).map fun i=>i+1:=List.mem_map.mpr ⟨k-1,List.mem_range.mpr q,Nat.sub_add_cancel h.1⟩
 have ⟨x,hx,e⟩:=nS (show k∈WU.map (·.1) from z)
 ⟨x.2,e▸hx⟩
section
theorem wG(tG:eb G)(bz:T.cx=cb)(hn:35<=n)(hi:0<=i/\i<8)(inv:Inv G T n aA r true m s.heap (bC [f_ "good" (.bool true),f_ "kind" (.int 1)] ++ [f_ "i" (.int i)]) W)
  (post:∀k a v ae m' h' tk,1<=k/\k<=4->a≠ .none->Inv G T n aA (r.put k a v) true m' h' (jY i) ae->Q .next {s with heap:=h',toks:=tk}):wpAny (model G.prog G.w) T.A (exec cX T.env) Q E s:=by
 obtain ⟨k,hk,Vc⟩:∃k:Nat,r.q%4=((k-1:Nat):Int)/\(1<=k/\k<=4):=by
  have h1:=Int.emod_nonneg r.q (by decide:(4:Int)≠0)
  have h2:=Int.emod_lt_of_pos r.q (by decide:(0:Int)<4)
  exact ⟨(r.q%4).toNat+1,by omega,by omega,by omega⟩
 refine aU (L3 Vc) fun nm ja=>?_
 refine ay (uv (r.q/4+i)) fun x hx hm=>?_
 have hd:x.gX=true->J1 r.q i x 60=(r.q/4+i)%2/\J1 r.q i x (60+1)=(r.q/4+i)%5:=fun h=>by unfold J1;refine aa h ?_;exact ⟨rfl,rfl⟩
 have ht:x.gX=false->J1 r.q i x 60=(r.q/4+i)%5:=fun h=>by unfold J1;refine aa h ?_;rfl
 have fd:IA (J1 r.q i x) (.FloorDiv,56,4, .d 58):=⟨r.q/4,Nat.le_refl 56,(by show (if (0:Int)<4 then some (r.q/4) else none)=_;exact if_pos (by decide)),by decide, .inr ⟨58,rfl,by omega,rfl⟩⟩
 have f2:Iz (J1 r.q i x) (.Add,58,57, .d 59):=⟨r.q/4+i,zd rfl,zd rfl,rfl,by show i.natAbs<_;omega, .inr ⟨59,rfl,by omega,rfl⟩⟩
 have rk:aX r (J1 r.q i x) (w9 k x ((r.q/4+i)%3)):=by
  refine oF rfl rfl rfl rfl rfl rfl rfl rfl rfl rfl rfl (fun _ _ _ _ _ e=>fR (all_cons (eH (Nat.le_refl 56) (by decide) (by decide) (.inl (congrArg AV.int hk.symm))) (all_cons fd (nP (J:=J1 r.q i x) (a:=59) (b:=60) (x:=x) (zd rfl) (zd rfl) hx rfl hd ht))) e) fun _ _ _ _ _ e=>sC (all_cons f2 all_nil) e
 exact jF (J:=J1 r.q i x) (P:=w9 k x ((r.q/4+i)%3)) (r':=r.put k (hW (r.q/4+i) x) (nz (r.q/4+i) ((r.q/4+i)%3))) tG bz hn (by decide +kernel) inv rk rfl rfl (aw (aw (aw (z9 r.x.l) (k,nm) ja) x hm) _ (uu _)) (nN r _ (by omega) (zd rfl) hd ht) rfl (Rec.oP inv.ok (by omega) (nM _ _)) fun ae m' h' tk bF=>post k _ _ ae m' h' tk Vc (by unfold hW;cases x.gX<;>exact nofun) bF
end
theorem Dk(h1:P.cls=di)(ht:P.tags=bB 70 l)(hl:∀p∈l,eQ p.2 (aW r J p.1))(lt:∀p∈l,p.1<56)(h2:P.eqs=[])(h3:P.jO=[])(h4:P.dg=[])(h5:P.ds=[])(h6:P.pT=[])(h7:P.fns=iH)(h8:P.iW=mf)(h9:P.spec=spT l)(Jj:P.kn=56)
  (ops:∀op i k nd v,ql op i k nd P.ops=some v->∃y,56<=i/\eU op (J i) k=some y/\k.natAbs<2 ^ 20/\(v= .int y\/∃j,v= .d j/\56<=j/\J j=y))
  (eu:∀op i k nd v,kc op i k nd P.eu=some v->∃y,56<=i/\56<=k/\eU op (J i) (J k)=some y/\(J k).natAbs<2 ^ 20/\(v= .int y\/∃j,v= .d j/\56<=j/\J j=y)):aX r J P where
 tab:=⟨h1,lM ht hl,by refine aa h2 ?_;exact all_nil,by refine aa h3 ?_;exact all_nil,by refine aa h4 ?_;exact all_nil,by refine aa h5 ?_;exact all_nil,by refine aa h6 ?_;exact all_nil⟩
 fns:=h7
 kt:=h8
 spec:=by refine aa h9 ?_;unfold spT bN;exact aa ht rfl
 kn:=Jj
 ops:=ops
 eu:=eu
 tg:=mZ ht lt
 eqs:=by refine aa h2 ?_;exact all_nil
 jO:=by refine aa h3 ?_;exact all_nil
 dg:=by refine aa h4 ?_;exact all_nil
 ds:=by refine aa h5 ?_;exact all_nil
noncomputable def fb(kd:Int):aL:=bC [f_ "good" (.bool true),f_ "kind" (.int kd)]
theorem hZ(kd:Int):∀p∈fb kd,cJ 47 p.2=true/\cV bl p.2=p.2:=yx (all_cons ⟨rfl,rfl⟩ (all_cons ⟨rfl,rfl⟩ all_nil))
section
theorem wJ(tG:eb G)(bz:T.cx=cb)(hn:35<=n)(inv:Inv G T n aA r true m s.heap (fb kd ++ [f_ "i" (.int i)]) W)
  (post:∀r' ae m' h' tk,r'.res 0≠ .none->(∀j,5<=j->r'.res j=r.res j)->r'.kU=r.kU->r'.kV=r.kV->r'.x=r.x->r'.q=r.q->Inv G T n aA r' true m' h' (fb kd ++ [f_ "i" (.int i)]) ae->Q .next {s with heap:=h',toks:=tk}):wpAny (model G.prog G.w) T.A (exec (bO iQ 0) T.env) Q E s:=by
 by_cases h0:r.res 0= .none
 ·refine ay (uv r.q) fun x hx hm=>?_
  have hd:x.gX=true->Jq r.q i x 58=r.q%2/\Jq r.q i x (58+1)=r.q%5:=fun h=>by unfold Jq;refine aa h ?_;exact ⟨rfl,rfl⟩
  have ht:x.gX=false->Jq r.q i x 58=r.q%5:=fun h=>by unfold Jq;refine aa h ?_;rfl
  have rk:aX r (Jq r.q i x) (X4 x (r.q%3)):=Dk (l:=[(0, .none)]) rfl rfl (all_cons (show (r.res 0).eA= .none by refine aa h0 ?_;rfl) all_nil) (all_cons (zd rfl) all_nil) rfl rfl rfl rfl rfl rfl rfl rfl rfl (fun _ _ _ _ _ e=>fR (nP (a:=56) (b:=58) (x:=x) (zd rfl) (zd rfl) hx rfl hd ht) e) (bR rfl)
  have nr:hW r.q x≠ .none:=by unfold hW;cases x.gX<;>exact nofun
  refine ky (pre:=fb kd) (pre':=fb kd) (J:=Jq r.q i x) (P:=X4 x (r.q%3)) (r':=r.put 0 (hW r.q x) (nz r.q (r.q%3))) tG bz hn (by kernel_rfl) (hZ kd) inv rk rfl rfl (aw (aw (Ai r.x.l kd) x hm) _ (uu r.q)) (nN r _ (zd rfl) (zd rfl) hd ht) rfl (Rec.oP inv.ok (zd rfl) (nM _ _)) fun ae m' h' tk bF=>post (r.put 0 (hW r.q x) (nz r.q (r.q%3))) ae m' h' tk nr (fun j hj=>?_) rfl rfl rfl rfl bF
  show (bif Nat.beq j 0 then _ else r.res j)=_
  refine aa (show Nat.beq j 0=false from Bool.eq_false_iff.mpr fun e=>by have:=iL e;omega) ?_;rfl
 ·have rk:aX r (Jl [r.q,i]) X3:=Dk (l:=[(0, .nn)]) rfl rfl (all_cons (show (r.res 0).eA≠ .none by cases q:r.res 0<;>first | exact absurd q h0 | exact nofun) all_nil) (all_cons (zd rfl) all_nil) rfl rfl rfl rfl rfl rfl rfl rfl rfl (gS rfl) (bR rfl)
  exact ky (pre:=fb kd) (pre':=fb kd) (J:=Jl [r.q,i]) (P:=X3) (r':=r) tG bz hn (by kernel_rfl) (hZ kd) inv rk rfl rfl (wU r.x.l kd) (bH r _) rfl inv.ok fun ae m' h' tk bF=>post r ae m' h' tk h0 (fun _ _=>rfl) rfl rfl rfl rfl bF
end
theorem vA(hK:G.K=H.K P)(hq:q∈ET):∃D,nH G q.1 (rl q) D/\D.body=H.fB q.2.2.1/\D.scope=H.fS q.2.2.1:=by
 refine IF (tf G.K q.2.2.1 q.1) fun r e _ _ _ h4 h5=>?_
 refine ⟨Gi G.K q.2.2.1 q.1,y9 (T:=q.2.2.1) ?_ (uI (pk EP q hq)) rfl rfl (tf _ _ _) ?_,by exact aa e (aa h4 rfl),by exact aa e (aa h5 rfl)⟩
 ·refine aa hK ?_;exact aw (y8 P) q hq
 ·refine aa hK ?_;exact pk (ES P) q hq
section
theorem nQ(h:cellsOf names=[])(y:Str):names.lookup y≠some .cell:=fun e=>by
 have:=kQ e
 replace h:=(iF ..)▸h
 replace this:=(List.map_eq_nil_iff.mp h)▸this
 exact zM this
noncomputable def Back(T dm:At)(m:Str->Option Value)(s:Shared)(Q:Value->Shared->Prop)(iI:Flow->Shared->Prop):Prop:=∀(G':Gx) (W':Wd) (h':Heap) (tK:Nat) (m':Str->Option Value) (aY:St) (v:Value),dm.Rep G' h' m' W' aY->
 ((∀l,cv W' m l->T.Rep G' h' m W' (bQ aY l))->Q v {s with heap:=h',toks:=tK})->iI (.ret v) {s with heap:=h',toks:=tK}
theorem Ij(O:nH G f fi D)(dI:fi.cells=[])(ok:T.Ok G (n+1) b W)(Rp:T.Rep G s.heap m W σ)(rp:bE W pos us)(e1:kl fi.params fi.ki pos []=some binds)
  (body:∀(dm:At) m₁ aq ar iI j7,dm.cx=⟨[],none⟩->dm.Ok G n (.fn D.scope.names) W->dm.Rep G aq m₁ W (bQ σ binds)->Back T dm m s Q iI->wpAny (model G.prog G.w) dm.A (execs D.body dm.env) iI j7 {s with heap:=aq,toks:=ar}):
  wpAny (model G.prog G.w) T.A (call (.ref f) us []) Q E s:=by
 have S:=ok.gL
 have hd:=S.hd
 have hu:=S.hu
 refine wpAny_call ?_
 refine ay (O.hd W) fun M6 rd ME=>?_
 replace e1:=O.UT▸e1
 refine eN (tm (fd:=fnOf D.name fi.qual D.params D.body D.scope D.dV D.kV D.doc D.pm D.an D.nk D.ct) O.hp (fun M A E Q h=>ME s (S.X.keeps Rp.fr.keep) M A E Q h) rp rd .nil e1) fun bs Gd rb sub=>?_
 have nb:=sub.nodup O.nd
 have kb:∀y∈bs,D.scope.names.lookup y.1=some .local\/D.scope.names.lookup y.1=some .cell:=fun y hy=>O.kinds _ (sub.subset (List.mem_map_of_mem (f:=(·.1)) hy))
 have U7:=O.hc.symm.trans dI
 refine code_def S.B Rp.fr S.X Rp.nw S.T S.hA S.hf S.Ex O.ho O.Ez (by show T.A.depth<1000;omega) Gd (fun y hy=>(kb y hy).resolve_right (nQ U7 _)) ?_ O.MH O.xG O.hk (lC U7)
 intro g L' aq FG F' N' B' X' T'
 let pW:=envOf fi.qual D.scope L' f D.nk
 let dm:At:=⟨T.A,T.A.deeper pW,T.base,T.aN::T.outer,g,L',pW,pW,T.fz,⟨[],none⟩⟩
 have gM:dm.Ok G n (.fn D.scope.names) W:=by
  refine ⟨⟨B',X',T',?_,rfl,O.hk,S.hh,?_,?_⟩,rfl,rfl,fi.qual,D.scope,f,D.nk,[],rfl,rfl,O.hk,?_,fun y e=>absurd e (nQ U7 y)⟩
  ·show T.A.frames.map _=_;refine aa S.hA ?_;rfl
  ·show T.A.depth+1+3*n<=900;omega
  ·show T.A.units+3+20*n<=8000;omega
  ·intro x i e;exact zS e
 have pL:cv W (fun y=>bs.reverse.lookup y) binds:=fun x v e=>by
  have g:=rb.look x
  replace g:=e▸g
  refine g.someE fun u e1 e2=>?_
  exact ⟨u,(iw nb x).trans e1,e2⟩
 refine body dm _ aq (s.toks+bs.length) _ _ rfl gM ⟨F',N',Rp.nd,Rp.mem,Rp.n1,Rp.n2,Rp.n3,Rp.ob,pL,Rp.dat⟩ fun G' W' h' tK m' aY v az k=>?_
 exact ⟨L',m',W'.news T.fz,az.fr,az.nw,fun F N=>k fun l hl=>⟨F,N,az.nd,az.mem,az.n1,az.n2,az.n3,az.ob,hl,az.dat⟩⟩
end
theorem EV:∀subs loc,fdOf bl ⟨loc,Mem.of (br true subs),57⟩=lY bl true subs (same.map some):=fun subs loc=>by kernel_rfl
theorem MV:∀subs loc,fdOf bl ⟨loc,Mem.of (br true subs),58⟩=lY bl true subs (same.map some):=fun subs loc=>by kernel_rfl
theorem Vq(subs:List String)(loc:aL){k:Nat}(h:k<=1):fdOf bl ⟨loc,Mem.of (br true subs),57+k⟩=gO [] bl true subs (same.map some):=by
 rcases Nat.le_one_iff_eq_zero_or_eq_one.mp h with rfl | rfl
 ·exact EV subs loc
 ·exact MV subs loc
theorem zi(subs:List String):(Mem.of (br true subs)).get 0=some (.cell (.d 56)):=by refine aa (of_get ..) ?_;rfl
theorem oU{j:Nat}(h:j<47):bl[j]?=some j:=List.getElem?_range h
theorem Lc{a:AV}(h:cJ 47 a=true):cV bl a=a:=by
 induction a with
 |o j=>
  show AV.o (bl[j]?.getD 0)=_
  refine aa (oU (zd h)) ?_;rfl
 |_=>rfl
noncomputable def NL(J:Nat->Int)(a a':AV):Prop:=(a=a'/\cJ 47 a'=true)\/∃j,a= .d j/\56<=j/\a'= .int (J j)
noncomputable def wh(J:Nat->Int):List AV->List AV->Prop
 | [],[]=>True
 |a::r,b::q=>NL J a b/\wh J r q
 |_,_=>False
noncomputable def yd(J:Nat->Int)(bW loc:aL):Prop:=∀x v,ah x loc=some v->∃a,ah x bW=some a/\NL J a v
section
variable {G:Gx}{s:Shared}{qs:List (Int×Tok)}
theorem Nu{I:Nat->Option Int}{h:Heap}{W₁ ae:Wd}{fz:List (Addr×Obj)}{L:Addr}{h₀:Heap}{σ:St}(R:Rep (G.at P (ec J)) h₀ L fz h m W₁ σ)(hl:W.bg.length=47)(le:W.bg <+:W₁.bg)(hr:dJ bl W ae){a a':AV}(ha:NL J a a'){v:Value}(q:VR W₁ a v):VR ae a' v:=by
 rcases ha with ⟨rfl,hg⟩ | ⟨j,rfl,hj,rfl⟩
 ·induction a with
  |o j=>
   refine VR.oM q fun b e=>?_;clear q
   have h47:j<47:=zd hg
   have e2:W.bg[j]?=some W.bg[j]:=iV (by omega)
   have e3:=ai le e2
   replace e3:=e▸e3
   have dC:=aH e3;clear e3;clear e;subst dC
   exact ⟨_,hr j j _ (oU h47) e2,rfl⟩
  |d j=>
   have hg:(Nat.ble 57 j&&Nat.blt j (57+0))=true:=hg
   replace hg:=(Bool.and_eq_true ..)▸hg
   exact absurd (zd hg.2) (Nat.not_le.mpr (Nat.lt_succ_of_le (zd hg.1)))
  |_=>exact q
 ·exact R.dat.int j v (J j) q (if_pos hj)
theorem tu{I:Nat->Option Int}{h:Heap}{W₁ ae:Wd}{fz:List (Addr×Obj)}{L:Addr}{h₀:Heap}{σ:St}(R:Rep (G.at P (ec J)) h₀ L fz h m W₁ σ)(hl:W.bg.length=47)(le:W.bg <+:W₁.bg)(hr:dJ bl W ae):∀{as Oa:List AV} {vs:List Value},wh J as Oa->bE W₁ as vs->bE ae Oa vs
 | [],[],[],_,_=>trivial
 |_::_,_::_,_::_,ha,q=>⟨Nu (I:=I) R hl le hr ha.1 q.1,tu (I:=I) R hl le hr ha.2 q.2⟩
 | [],[],_::_,_,q=>q.elim
 |_::_,_::_,[],_,q=>q.elim
 | [],_::_,_,ha,_=>ha.elim
 |_::_,[],_,ha,_=>ha.elim
theorem Inv.bg(inv:Inv G T n sc r c m s.heap loc W):W.bg.length=47:=inv.rep.n1.trans ((DV _).trans (by refine aa (gx ..) ?_;rfl))
theorem Inv.IV{m':Str->Option Value}(inv:Inv G T n sc r true m s.heap loc W)(cls:P.cls=di)(hJ:J 56=r.q)(US:qs.length<=1){W₁:Wd}{h':Heap}(le:(W.ext (qs.map cP)).le W₁)(R:T.Rep (G.at P (ec J)) h' m' W₁ ⟨bW,Mem.of (br true r.x.l),57+(qs.map cP).length⟩)(sU:yd J bW loc):
  ∃ae,Inv G T n sc r true m' h' loc ae/\dJ bl W ae:=by
 refine cF.leave (ex':=[]) (xs':=[]) (r':=r) (pi:=bl) (c':=true) inv hJ cls le R rfl m7 ⟨eG,gi,⟨Mine.same,?_,bH r J⟩,fun _=>⟨56,zi _,Nat.le_refl 56,hJ⟩,inv.ok,fun x v e=>?_⟩
 ·exact Vq r.x.l bW (by refine aa (List.length_map ..) ?_;exact US)
 ·refine ay (sU x v e) fun a e1 e2=>?_
  rcases e2 with ⟨rfl,hg⟩ | ⟨j,rfl,hj,rfl⟩
  ·exact .inl ⟨by refine aa (Lc hg) ?_;exact e1,hg⟩
  ·exact .inr ⟨j,e1,hj,rfl⟩
theorem Inv.same(inv:Inv G T n sc r true m s.heap loc W)(cls:P.cls=di)(hJ:J 56=r.q)(US:qs.length<=1){W₁:Wd}{h':Heap}(le:(W.ext (qs.map cP)).le W₁)(R:T.Rep (G.at P (ec J)) h' m W₁ ⟨bW,Mem.of (br true r.x.l),57+(qs.map cP).length⟩)(sU:yd J bW loc):
  ∃ae,Inv G T n sc r true m h' loc ae/\dJ bl W ae:=inv.IV cls hJ US le R sU
theorem ro(tG:eb G)(inv:Inv G T n sc r true m s.heap loc W)(hn:35<=n)(k:aX r J P)(hJ:J 56=r.q)(US:qs.length<=1)(hq:∀i p,qs[i]?=some p->J (57+i)=p.1)(hl:cv (W.ext (qs.map cP)) m bW)(sU:yd J bW loc)
  {fe:Expr} {as:List Expr} {pos:Pos} {a:Addr} {vs vs':List AV} (hk:keepIn G.K (.ref a)=true) (he:∀o x p,fe≠ .Attribute o x p) (hs:aZ as=true) (XK:(den P (cH P 30) (cE G.gl (.fn sc) fe)).ev=BY (.k a))
  (runs:(den P (cH P 30) (gz G.gl (.fn sc) as)).sX T.cx ⟨bW,Mem.of (br true r.x.l),57+(qs.map cP).length⟩=some (vs,⟨bW,Mem.of (br true r.x.l),57+(qs.map cP).length⟩)) (hv:wh J vs vs') {Q:Value->Shared->Prop} {E:Value->Shared->Prop}
  (post:∀ae h' tk us,Inv G T n sc r true m h' loc ae->dJ bl W ae->bE ae vs' us->wpAny (model G.prog G.w) T.A (call (.ref a) us []) Q E {s with heap:=h',toks:=tk}):wpAny (model G.prog G.w) T.A (eval (.Call fe as [] pos) T.env) Q E s:=by
 have ga:=k.ga tG
 have io:=k.io G
 have R:=cF.enter (ex:=[]) (xs:=[]) inv k.tab hJ Ay hq hl
 replace R:=(gx ..)▸R
 have ok:T.Ok (G.at P (ec J)) 35 (.fn sc) (W.ext (qs.map cP)):=inv.BO hn _
 have oe:=xd ga.gk ga.ca io (du ga io 30)
 have arm:eval (.Call fe as [] pos) T.env=(do callWith pos (<-eval fe T.env) [] (backTo pos (starEach as T.env)) (backToKw pos (keywordEach [] T.env))):=by
  induction fe using PySem.Expr.casesOn<;>first | rfl | exact absurd rfl (he _ _ _)
 refine aa arm ?_
 refine wpAny_bind ((oe fe (.fn sc)).1 T _ m _ s (.k a) _ _ E ok R (by show (den P (cH P 30) (cE G.gl (.fn sc) fe)).ev _ _=_;refine aa XK ?_;rfl) fun W₁ aq ar bp ag ak aK=>?_)
 have aK:bp= .ref a:=aK
 subst aK
 refine d6 (G:=G.at P (ec J)) (s:={s with heap:=aq,toks:=ar}) (kA fun e _=>oe e _).1 hs nJ rfl (fun h X=>keeps_K hk h X) (ok.mono ag) ak runs rfl fun ae aJ aG us kvs ax az aV eC=>?_
 cases eC.isNil
 refine ay (inv.same k.tab.cls hJ US (ag.trans ax) az sU) fun bu bF hr=>?_
 exact post bu aJ aG us bF hr (tu (I:=ec J) az inv.bg (ag.trans ax).bg hr hv aV)
theorem Inv.Dp{xr:aL}{ae:Wd}{h':Heap}(bc:Inv G T n sc r c m h' xr ae)(hr:dJ bl W ae)(hl:cv W m loc)(m3:∀x v,ah x loc=some v->cJ 47 v=true):Inv G T n sc r c m h' loc ae:=by
 obtain ⟨⟨a1,a2,a3,a4,a5,a6,a7,a8,a9,a10⟩,b2,b3,b4,b5,b6⟩:=bc
 refine ⟨⟨a1,a2,a3,a4,a5,a6,a7,a8,fun x v e=>?_,a10⟩,b2,b3,b4,b5,b6⟩
 refine ay (hl x v e) fun u e1 e2=>?_
 refine ⟨u,e1,?_⟩
 have hg:=m3 _ v e
 induction v with
 |o j=>
  refine VR.oM e2 fun b e3=>?_;clear e2
  exact ⟨b,hr j j b (oU (zd hg)) e3,rfl⟩
 |d j=>
  have hg:(Nat.ble 57 j&&Nat.blt j (57+0))=true:=hg
  replace hg:=(Bool.and_eq_true ..)▸hg
  exact absurd (zd hg.2) (Nat.not_le.mpr (Nat.lt_succ_of_le (zd hg.1)))
 |_=>exact e2
theorem oA(x:Sb):x∈yu:=nK x
theorem xt(b:Bool):b∈va:=by induction b<;>simp [va]
theorem l6(a b:Bool):(a,b)∈bits:=by induction a<;>induction b<;>simp [bits]
theorem EF{x:R AV}{subs:List String}(h:oV bl x=good true subs same):∃σ,x=some (.bool true,σ)/\σ.mem.get 0=some (.cell (.d 56))/\fdOf bl σ=lY bl true subs (same.map some):=by
 induction x with
 |none=>exact zS h
 |some z=>
  obtain ⟨v,σ⟩:=z
  have h:=aH h
  replace h:=(Prod.mk.injEq ..)▸h;replace h:=(Prod.mk.injEq ..)▸h
  refine fK h fun h1 h2 h3=>?_;clear h
  have h1:v= .bool true:=h1
  subst h1
  exact ⟨σ,rfl,h2,h3⟩
theorem Hh{r:Rec}(ok:r.Ok)(log:Bool)(J:Nat->Int){nm:String}(ja:nm= "U" \/nm= "V"):∃P,aX r J P/\oV bl (x8 P nm r.x.l log)=good true r.x.l same:=by
 rcases ja with rfl | rfl
 ·refine ⟨_,K4 ok J,?_⟩
  generalize hk:UE r=bZ;induction bZ with
  |no=>exact aw (aw Ao r.x (oA _)) log (xt _)
  |yes a b=>
   induction log with
   |true=>exact aw (aw An r.x (oA _)) (a,b) (l6 _ _)
   |false=>exact aw (aw Am r.x (oA _)) (a,b) (l6 _ _)
 ·refine ⟨_,K3 ok J,?_⟩
  generalize hk:UD r=ir;induction ir with
  |no=>exact aw (Al r.x.l) log (xt _)
  |yes a b=>
   induction log with
   |true=>exact aw (Ak r.x.l) (a,b) (l6 _ _)
   |false=>exact aw (Aj r.x.l) (a,b) (l6 _ _)
structure FU(r:Rec):Prop where
 res:∀k,r.res k= .none
 x:r.x=zW
noncomputable def nI(c:Bool)(σ:St)(subs:List String):Prop:=(c=true->σ.mem.get 0=some (.cell (.d 56)))/\fdOf bl σ=gO [] bl c subs (Mine.same.map some)
theorem rg{x:R AV}{subs:List String}(h:oV bl x=EG subs Mine.same):∃σ,x=some (.bool true,σ)/\nI false σ subs:=by
 induction x with
 |none=>exact zS h
 |some z=>
  obtain ⟨v,σ⟩:=z
  have h:=aH h
  replace h:=(Prod.mk.injEq ..)▸h;replace h:=(Prod.mk.injEq ..)▸h
  refine fK h fun h1 h2 h3=>?_;clear h
  have h1:v= .bool true:=h1
  subst h1
  exact ⟨σ,rfl,fun e=>(zT e),h3⟩
theorem Di{r:Rec}(ok:r.Ok){c:Bool}(hc:c=false->FU r)(log:Bool)(J:Nat->Int){nm:String}(ja:nm= "U" \/nm= "V"):∃P σ,aX r J P/\cH P 30 (.k 684) [.o 5, .o 10,sA nm, .o 7, .o 6, .o 9, .bool log] [] ⟨[],Mem.of (br c r.x.l),57⟩=some (.bool true,σ)/\nI c σ r.x.l:=by
 induction c with
 |true=>
  refine ay (Hh ok log J ja) fun P k run=>?_
  refine eN (EF run) fun σ e1 e2 e3=>?_
  exact ⟨P,σ,k,e1,fun _=>e2,e3⟩
 |false=>
  obtain ⟨e,hx⟩:=hc rfl
  have h:=Prod.mk.inj (aw Dh log (xt _))
  rcases ja with rfl | rfl
  ·have hk:UE r= .no:=by unfold UE;exact aa (ok.u.mp (e 5)) rfl
   have k:=K4 ok J
   replace k:=hk▸k;replace k:=hx▸k
   refine ay (rg h.1) fun σ e1 e2=>?_
   refine aa hx ?_
   exact ⟨_,σ,k,e1,e2⟩
  ·have hk:UD r= .no:=by unfold UD;exact aa (ok.v.mp (e 6)) rfl
   have k:=K3 ok J
   replace k:=hk▸k
   refine ay (rg h.2) fun σ e1 e2=>?_
   refine aa hx ?_
   exact ⟨_,σ,k,e1,e2⟩
theorem rC(tG:eb G)(inv:Inv G T n sc r c m s.heap loc W)(hc:c=false->FU r)(hn:35<=n)(m3:∀x v,ah x loc=some v->cJ 47 v=true){nm:String}(ja:nm= "U" \/nm= "V") {log:Bool} {us:List Value} (hu:bE W [.o 5, .o 10,sA nm, .o 7, .o 6, .o 9, .bool log] us) {Q:Value->Shared->Prop} {E:Value->Shared->Prop}
  (post:∀ae h' tk,Inv G T n sc r c m h' loc ae->dJ bl W ae->Q (.bool true) {s with heap:=h',toks:=tk}):wpAny (model G.prog G.w) T.A (call (.ref 684) us []) Q E s:=by
 refine mX (Di inv.ok hc log (fun _=>r.q) ja) fun P σ k e1 e2 e3=>?_
 have ga:=k.ga tG
 have io:=k.io G
 have R:=cF.enter (ex:=[]) (xs:=[]) (qs:=[]) (loc':=[]) inv k.tab rfl (fun _ _ e=>zS e) (fun _ _ e=>zS e) (fun _ _ e=>zS e)
 replace R:=(gx ..)▸R
 have hu:=bE.mono (W.cp []) hu
 refine (du ga io 30).2 T (.fn sc) _ m _ s (.k 684) _ [] (.ref 684) us [] _ σ Q E (inv.BO hn _) R rfl hu .nil e1 fun W₁ h' tk v le ak rv=>?_
 subst rv
 refine ay (cF.leave (ex':=[]) (xs':=[]) (r':=r) (pi:=bl) (c':=c) (loc':=[]) inv rfl k.tab.cls le ak rfl (fun _ _ e=>zS e) ⟨eG,gi,⟨Mine.same,e3,bH r _⟩,fun e=>⟨56,e2 e,Nat.le_refl 56,rfl⟩,inv.ok,fun x v e=>zS e⟩) fun ae bc hr=>?_
 exact post ae h' tk (Inv.Dp bc hr inv.rep.loc m3) hr
theorem wa(tG:eb G)(inv:Inv G T n sc r true m s.heap loc W)(hn:35<=n)(m3:∀x v,ah x loc=some v->cJ 47 v=true){nm:String}(ja:nm= "U" \/nm= "V") {log:Bool} {us:List Value} (hu:bE W [.o 5, .o 10,sA nm, .o 7, .o 6, .o 9, .bool log] us) {Q:Value->Shared->Prop} {E:Value->Shared->Prop}
  (post:∀ae h' tk,Inv G T n sc r true m h' loc ae->dJ bl W ae->Q (.bool true) {s with heap:=h',toks:=tk}):wpAny (model G.prog G.w) T.A (call (.ref 684) us []) Q E s:=
 rC tG inv (fun e=>zF e) hn m3 ja hu post
end
end
section
open PySem
noncomputable def fh:List Stmt:=H.fB H.B2
noncomputable def iD:List (Str×NameKind):=(H.fS H.B2).names
noncomputable def nC(N:List (Str×NameKind))(P:bA)(l:List Stmt)(loc:aL)(mem:Mem)(nd:Nat):R AF:=(den P (cH P 30) (tO aT (.fn N) l)).qw ⟨[],none⟩ ⟨loc,mem,nd⟩
noncomputable def jn(pi:List Nat)(loc':aL)(r:R AF):Option (AF×Option AO×Nat×List (Option AV)×Fd):=Option.map (fun z=>(z.1,z.2.mem.get 0,z.2.nd,loc'.map (fun p=>ah p.1 z.2.loc),fdOf pi z.2)) r
noncomputable def pY(fl:AF)(nd:Nat)(ex:List AO)(pi:List Nat)(loc':aL)(subs:List String)(sh:List PV):Option (AF×Option AO×Nat×List (Option AV)×Fd):=some (fl,some (.cell (.d 56)),nd,loc'.map (fun p=>some (cV pi p.2)),gO ex pi true subs (sh.map some))
noncomputable def tE(n:String)(dc:AV):aL:=[f_ "name" (sA n),f_ "options" .none,f_ "setup_tasks" (.o 52),f_ "actions" (.o 53),f_ "dep_changed" dc,f_ "file_dep" (.o 54),f_ "task_dep" (.o 55),f_ "wild_dep" (.o 56),f_ "calc_dep" (.o 57),f_ "getargs" (.o 58),f_ "value_savers" (.o 59),f_ "uptodate" (.o 60),f_ "targets" (.o 67),f_ "subtask_of" .none,f_ "has_subtask" (.bool false),f_ "result" .none,f_ "values" (.o 68),f_ "executed" (.bool false)]
noncomputable def rdF(x:String)(b q:Bool):aL:=[f_ "dep_name" (sA x),f_ "setup_dep" (.bool b),f_ "result_name" (.str (om Hv (S x).cps.toList))]++bif q then [f_ "dep_manager" (.o 5),f_ "tasks_dict" (.o 10)] else []
noncomputable def jx(v:Bool)(u:Str)(q:Bool):List AO:=
 [.dict [dE "n" (.d 58)], .tup [sA "do", .str u, .o 47], .inst 573 (tE (bif v then "V" else "U") (bif q then .o (bif v then 71 else 69) else .none)), .inst 630 (rdF (bif v then "U" else "M") false q), .inst 630 (rdF (bif v then "M" else "G") v q),
 .list (bif v then [sA "M"] else []), .list [.o 48], .list [], .list (bif v then [sA "U"] else [sA "M",sA "G"]), .list [], .list [], .dict (bif v then [dE "arg" (.o 69)] else []),
 .list (bif q then (bif v then [.o 72, .o 73] else [.o 70, .o 71]) else []), .list (bif v then [.o 70, .o 61, .o 62] else [.o 61, .o 62]), .tup [.o 50, .o 63, .o 64], .tup [.o 51, .o 65, .o 66], .list [], .dict [], .list [], .dict [], .list [], .dict []]
 ++ ((bif v then [.tup [sA "M",sA "n"], .tup [.bool true, .none, .none]] else [])++bif q then [.list [], .tup [.o 50, .o (bif v then 13 else 11)], .tup [.o 51, .o (bif v then 11 else 12)]] else [])
noncomputable def NU(v:Bool):String:=bif v then "V" else "U"
noncomputable def lE0(v bt:Bool):aL:=[f_ "manager" (.o 5),f_ "tasks" (.o 10),f_ "name" (sA (NU v)),f_ "results" (.o 7),f_ "values" (.o 8),f_ "subs" (.o 6),f_ "kept" (.o 9),f_ "between" (.bool bt)]
noncomputable def lE(v bt:Bool):aL:=lE0 v bt ++ [f_ "q" (.d 57)]
noncomputable def F5(v bt:Bool):aL:=lE v bt ++ [f_ "task" (.o 49)]
noncomputable def pn(v bt:Bool):aL:=F5 v bt ++ [f_ "good" (.bool true)]
noncomputable def wj(b:Bool):Str:=bif b then S "v" else S "u"
noncomputable def bI(b:Bool):Int:=bif b then 1 else 0
noncomputable def Pd(v:Bool):List Nat:=List.range 47++bif v then [47,48,54,50,63,55,57,58,59,60,61,53,65,66,70,73,68,69,71,72,74,75,52,67] else [47,48,53,50,51,55,57,58,59,60,61,54,62,63,66,69,64,65,67,68,70,71]
noncomputable def F0(v:Bool)(k:KU):List Nat:=List.range 47++bif v then [47,48,49,50,51,52,53,54,55,56,57,58,59,60,61,62,63,64,65,66,67,68,69,70]++(match k with
  | .no=>[75,78,81]
  | .yes true true=>[79,77,78]
  | .yes true false=>[75,77,78]
  | .yes false _=>[75,77,79]) else [47,48,49,50,51,52,53,54,55,56,57,58,59,60,61,62,63,64,65,66,67,68]++(match k with
  | .no=>[73,76,80]
  | .yes true true=>[78,75,77]
  | .yes true false=>[73,75,77]
  | .yes false _=>[73,75,78])
noncomputable def Hr(v:Bool):List Nat:=List.range (bif v then 74 else 72)
noncomputable def pA(b:Bool):bA:={dA with ops:=[(.Mod,57,2, .int (bI b)),(.Mod,57,7, .d 58)]}
noncomputable def bools:List Bool:=[true,false]
noncomputable def qg:List KU:=[.no, .yes true true, .yes true false, .yes false true, .yes false false]
theorem Dg:∀subs bt,(bools.map fun v=>bools.map fun b=>jn (Pd v) (F5 v bt) (nC iD (pA b) (fh.take 1) (lE v bt) (Mem.of (br true subs)) 58))=bools.map fun v=>bools.map fun b=>pY .next 59 (jx v (wj b) false) (Pd v) (F5 v bt) subs same:=fun subs bt=>by kernel_rfl
theorem Ag:∀subs bt u,(qg.map fun k=>jn (F0 true k) (pn true bt) (nC iD (pV k) ((fh.drop 1).take 2) (F5 true bt) (Mem.of (gy true subs (jx true u false))) 59))=qg.map fun k=>pY .next 59 (jx true u true) (F0 true k) (pn true bt) subs same:=fun subs bt u=>by kernel_rfl
theorem Ah:∀bt u,(yu.map fun x=>qg.map fun k=>jn (F0 false k) (pn false bt) (nC iD (pU x.l k) ((fh.drop 1).take 2) (F5 false bt) (Mem.of (gy true x.l (jx false u false))) 59))=yu.map fun x=>qg.map fun k=>pY .next 59 (jx false u true) (F0 false k) (pn false bt) x.l same:=fun bt u=>by kernel_rfl
noncomputable def pC(x:Q4)(r3:Int):bA:={dA with ops:=(.Add,57,1, .d 59)::Ax 59 60 x r3}
theorem De:∀subs u,(bools.map fun v=>BN.map fun x=>Dw.map fun r3=>jn (Hr v) (pn v true) (nC iD (pC x r3) ((fh.drop 3).take 1) (pn v true) (Mem.of (gy true subs (jx v u true))) 59))=bools.map fun v=>BN.map fun x=>Dw.map fun r3=>pY .next ((bif x.gX then 61 else 60)+bif decide (r3=0) then 0 else 1) (jx v u true) (Hr v) (pn v true) subs (mA same (ly 0 60 x r3 none)):=fun subs u=>by kernel_rfl
theorem Af:∀subs u,(bools.map fun v=>jn (Hr v) (pn v false) (nC iD dA ((fh.drop 3).take 1) (pn v false) (Mem.of (gy true subs (jx v u true))) 59))=bools.map fun v=>pY .next 59 (jx v u true) (Hr v) (pn v false) subs same:=fun subs u=>by kernel_rfl
noncomputable def pD(b:Bool):bA:={dA with ops:=[(.Mod,57,2, .int (bI b)),(.Mod,57,7, .d 59)]}
noncomputable def WN(x:String)(a:PV):PV:= .tup (.cons (.str (S x)) (.cons a .nil))
noncomputable def ua(v:Bool)(b:Bool)(subs:List String):List (Nat×PV):=
 let k:=bif v then 6 else 5
 [(k, .tup (.cons (.str (S "text")) (.cons (.str (wj b)) .nil))),(14+4*k, .str (wj b)),(7+k, .dict (.ent (S "n") (.int 59) .nil)),
 (15+4*k, .dict (.ent (S "n") (.int 58) (bif v then .ent (S "_result:U") (.int 34) (.ent (S "_result:M") (.int 14) .nil) else .ent (S "_result:M") (.int 14) (.ent (S "_result:G") (OS subs) .nil)))),
 (16+4*k, .str (S "MD5Checker")),(17+4*k, .tup .nil),
 (bif v then 43 else 42,bif v then .tup (.cons (WN "U" (.int 5)) (.cons (WN "M" (.int 0)) .nil)) else .tup (.cons (WN "M" (.int 0)) (.cons (WN "G" (OR subs)) .nil)))]
theorem Ad:∀subs bt,(bools.map fun b=>jn bl [] (nC iD (pD b) (fh.drop 4) (pn true bt) (Mem.of (gy true subs (jx true (wj b) true))) 59))=bools.map fun b=>pY (.ret (.bool true)) 60 [] bl [] subs (mA same (ua true b subs)):=fun subs bt=>by kernel_rfl
theorem Ae:∀bt,(yu.map fun x=>bools.map fun b=>jn bl [] (nC iD (pD b) (fh.drop 4) (pn false bt) (Mem.of (gy true x.l (jx false (wj b) true))) 59))=yu.map fun x=>bools.map fun b=>pY (.ret (.bool true)) 60 [] bl [] x.l (mA same (ua false b x.l)):=fun bt=>by kernel_rfl
end
section
open PySem PySem.W PySem.Calls PyProof.Rows PyProof.V PySem.Spec
noncomputable def Gv(b:Bool):Tx:=bif b then .v else .u
noncomputable def Rec.Vv(r:Rec)(b:Bool):Rec:={r with res:=fun j=>bif Nat.beq j 5 then .t (Gv b) else r.res j,val:=fun j=>bif Nat.beq j 5 then some (r.q%7) else r.val j,kU:=some (r.res 0,r.cur)}
noncomputable def Rec.M3(r:Rec)(b:Bool):Rec:={r with res:=fun j=>bif Nat.beq j 6 then .t (Gv b) else r.res j,val:=fun j=>bif Nat.beq j 6 then some (r.q%7) else r.val j,kV:=some (r.res 5,r.res 0)}
noncomputable def Rec.i4(r:Rec)(v b:Bool):Rec:=bif v then r.M3 b else r.Vv b
theorem Bo(r:Rec)(b:Bool):(List.rec (iU r) (fun p _ ih=>lz ih p.1 p.2) [(5,(Res.t (Gv b)).eA),(34,(Res.t (Gv b)).st),(12,ku (some (r.q%7))),(35,Gu (r.q%7) (some (r.res 0,r.cur))),(36,PV.str (S "MD5Checker")),(37,PV.tup .nil),(42,kUP (some (r.res 0,r.cur)))]:List PV)=iU (r.Vv b):=rfl
theorem Bn(r:Rec)(b:Bool):(List.rec (iU r) (fun p _ ih=>lz ih p.1 p.2) [(6,(Res.t (Gv b)).eA),(38,(Res.t (Gv b)).st),(13,ku (some (r.q%7))),(39,Gs (r.q%7) (some (r.res 5,r.res 0))),(40,PV.str (S "MD5Checker")),(41,PV.tup .nil),(43,kVP (some (r.res 5,r.res 0)))]:List PV)=iU (r.M3 b):=rfl
theorem yh(b:Bool):PV.tup (.cons (.str (S "text")) (.cons (.str (wj b)) .nil))=(Res.t (Gv b)).eA:=by induction b<;>rfl
theorem Ca(b:Bool):PV.str (wj b)=(Res.t (Gv b)).st:=by induction b<;>rfl
theorem E6(r:Rec)(J:Nat->Int)(v b:Bool)(h58:J 58=r.q%7)(h59:J 59=r.q%7):(mA same (ua v b r.x.l)).map (cC (aW r J))=iU (r.i4 v b):=by
 refine (hM (f:=cC (aW r J)) (l:=same) (ua v b r.x.l)).trans ?_
 refine aa (bH r J) ?_
 have Ph:aW r J 58= .int (r.q%7):=by refine aa (Eq.symm h58) ?_;rfl
 have p59:aW r J 59= .int (r.q%7):=by refine aa (Eq.symm h59) ?_;rfl
 have p14:aW r J 14=(r.res 0).st:=qz r 0
 have p34:aW r J 34=(r.res 5).st:=qz r 5
 induction v with
 |true=>
  refine Eq.trans ?_ (Bn r b)
  refine aa (Eq.symm (yh ..)) (aa (Eq.symm (Ca ..)) ?_)
  show (List.rec (iU r) (fun p _ ih=>lz ih p.1 p.2) [(6,PV.tup (.cons (.str (S "text")) (.cons (.str (wj b)) .nil))),(38,PV.str (wj b)),(13,PV.dict (.ent (S "n") (aW r J 59) .nil)),(39,PV.dict (.ent (S "n") (aW r J 58) (.ent (S "_result:U") (aW r J 34) (.ent (S "_result:M") (aW r J 14) .nil)))),(40,PV.str (S "MD5Checker")),(41,PV.tup .nil),(43,kVP (some (r.res 5,r.res 0)))]:List PV)=_
  refine aa Ph (aa p59 (aa p14 (aa p34 ?_)));rfl
 |false=>
  refine Eq.trans ?_ (Bo r b)
  refine aa (Eq.symm (yh ..)) (aa (Eq.symm (Ca ..)) ?_)
  show (List.rec (iU r) (fun p _ ih=>lz ih p.1 p.2) [(5,PV.tup (.cons (.str (S "text")) (.cons (.str (wj b)) .nil))),(34,PV.str (wj b)),(12,PV.dict (.ent (S "n") (aW r J 59) .nil)),(35,PV.dict (.ent (S "n") (aW r J 58) (.ent (S "_result:M") (aW r J 14) (.ent (S "_result:G") (cC (aW r J) (OS r.x.l)) .nil)))),(36,PV.str (S "MD5Checker")),(37,PV.tup .nil),(42,PV.tup (.cons (j9 "M" (r.res 0).eA) (.cons (j9 "G" (cC (aW r J) (OR r.x.l))) .nil)))]:List PV)=_
  refine aa (Ph ..) (aa (p59 ..) (aa (p14 ..) (aa (uG ..) (aa (uF ..) ?_))));rfl
theorem H8{r:Rec}(ok:r.Ok)(b:Bool)(h0:r.res 0≠ .none)(h5:v=true->r.res 5≠ .none):(r.i4 v b).Ok:=by
 have vn:∀(k:Nat) (r':Rec),(∀j,(r'.res j,r'.val j)=(bif Nat.beq j k then (Res.t (Gv b),some (r.q%7)) else (r.res j,r.val j)))->∀j,r'.res j= .none->r'.val j=none:=fun k r' h j e=>by
  have h:=h j
  generalize q:Nat.beq j k=bZ;induction bZ with
  |true=>
   replace h:=q▸h
   have h1:r'.res j=_:=congrArg Prod.fst h
   replace e:=h1▸e;exact nomatch e
  |false=>
   replace h:=q▸h
   have h1:r'.res j=r.res j:=congrArg Prod.fst h
   have h2:r'.val j=r.val j:=congrArg Prod.snd h
   replace e:=h1▸e;refine aa h2 ?_;exact ok.vn j e
 induction v with
 |true=>exact ⟨ok.u,⟨fun h=>(nomatch h),fun h=>(zN h)⟩,ok.um,fun u m e=>by refine eO e fun b7 cw=>?_;clear e;subst b7 cw;exact ⟨h5 rfl,h0⟩,vn 6 _ fun j=>by show ((bif Nat.beq j 6 then _ else _),(bif Nat.beq j 6 then _ else _))=_;cases Nat.beq j 6<;>rfl,ok.vu,fun p _=>⟨_,rfl⟩⟩
 |false=>exact ⟨⟨fun h=>(nomatch h),fun h=>(zN h)⟩,ok.v,fun m g e=>by refine eO e fun dC dk=>?_;clear e;subst dC dk;exact h0,ok.vm,vn 5 _ fun j=>by show ((bif Nat.beq j 5 then _ else _),(bif Nat.beq j 5 then _ else _))=_;cases Nat.beq j 5<;>rfl,fun p _=>⟨_,rfl⟩,ok.vv⟩
theorem ia(h:jn pi loc x=pY fl nd ex pi loc subs sh):
  ∃σ,x=some (fl,σ)/\σ.nd=nd/\σ.mem.get 0=some (.cell (.d 56))/\(loc.map (fun p=>ah p.1 σ.loc)=loc.map fun p=>some (cV pi p.2))/\fdOf pi σ=gO ex pi true subs (sh.map some):=by
 induction x with
 |none=>exact zS h
 |some z=>
  obtain ⟨fl',σ⟩:=z
  have h:=aH h
  replace h:=(Prod.mk.injEq ..)▸h;replace h:=(Prod.mk.injEq ..)▸h;replace h:=(Prod.mk.injEq ..)▸h;replace h:=(Prod.mk.injEq ..)▸h
  refine tI h fun h1 h2 h3 h4 h5=>?_;clear h
  have h1:fl'=fl:=h1
  subst h1
  exact ⟨σ,rfl,h3,h2,h4,h5⟩
theorem ic{sh:List PV}(e1:σ.mem.get 0=some (.cell (.d 56)))(e2:loc.map (fun p=>ah p.1 σ.loc)=loc.map fun p=>some (cV pi p.2))(e3:fdOf pi σ=gO ex pi true r'.x.l (sh.map some))
  (hp:pi.length=47+ex.length) (hn:pi.Nodup) (Ga:sh.map (cC (aW r J))=iU r') (y0:J 56=r'.q) (ok:r'.Ok) (m3:(loc.all fun p=>kB (47+ex.length) u p.2)=true):LeaveX r r' J pi true ex u loc σ:=
 ⟨hp,hn,⟨sh,e3,Ga⟩,fun _=>⟨56,e1,Nat.le_refl 56,y0⟩,ok,fun x v e=> .inl ⟨aw e2 (x,v) (aO e),pk m3 (x,v) (aO e)⟩⟩
noncomputable def BH(W ae:Wd):Prop:=∀(i:Nat) (a:Addr),i<47->W.bg[i]?=some a->ae.bg[i]?=some a
theorem BH.trans(a:BH W W₁)(b:BH W₁ ae):BH W ae:=fun i x h e=>b i x h (a i x h e)
theorem dJ.IW(h:dJ pi W ae)(e:pi=List.range 47++l):BH W ae:=fun i a hi e1=>h i i a (by refine aa e ?_;exact ig (oU hi)) e1
theorem BH.bg(h:BH W ae):dJ bl W ae:=fun i j a e1 e2=>by
 have hi:i<47:=(jN e1).1
 replace e1:=(oU hi)▸e1
 have eD:=aH e1;clear e1;subst eD
 exact h i a hi e2
theorem LI:∀v,(Pd v).Nodup:=by decide +kernel
theorem DJ(v:Bool):(Hr v).Nodup:=List.nodup_range
theorem LH(v:Bool)(k:KU):(F0 v k).Nodup:=by
 have h:(bools.all fun v=>qg.all fun k=>jo (F0 v k))=true:=by kernel_rfl
 have nd:∀l:List Nat,jo l=true->l.Nodup:=fun l=>by
  induction l with
  |nil=>exact fun _=>List.nodup_nil
  |cons a r ih=>
   intro h
   have h:(!dG a r&&jo r)=true:=h
   replace h:=(Bool.and_eq_true ..)▸h;replace h:=(Bool.not_eq_true' ..)▸h
   exact List.nodup_cons.mpr ⟨fun q=>by replace h:=((dF a r).mpr q)▸h;exact (zF h.1),ih h.2⟩
 have h2:=pk (pk h v (by induction v<;>simp [bools])) k (by
  induction k with
  |no=>simp [qg]
  |yes a b=>induction a<;>induction b<;>simp [qg])
 exact nd _ h2
theorem cv.sub(h:cv W m l)(e:l'.map (fun p=>ah p.1 l)=l'.map fun p=>some p.2):cv W m l':=fun x v q=>h x v (aw e (code x,v) (aO q))
theorem cF.okS(inv:cF G T n sc r c ex xs m h loc W)(hs:BH W ae):T.Ok G n (.fn sc) ae:=by
 obtain ⟨y1,y2,cn,scope,a,kX,cl,y3,y4,y5,y6,y7⟩:=inv.gH.env
 refine ⟨inv.gH.gL,y1,y2,cn,scope,a,kX,cl,y3,y4,y5,fun x i hx=>?_,y7⟩
 refine ay (y6 x i hx) fun z z1 z2=>?_
 cases inv.Bx (code x) i hx
 exact ⟨z,hs 0 z (zd rfl) z1,z2⟩
theorem ft(b:Bool):b∈bools:=by induction b<;>simp [bools]
theorem Ef(k:KU):k∈qg:=by
 induction k with
 |no=>simp [qg]
 |yes a b=>induction a<;>induction b<;>simp [qg]
theorem tV(h:59<=N)(q a b:Int)(l:List Int):∀(k:Nat) (y:Int),[a,b][k]?=some y->57+k<N/\Jl (q::a::b::l) (57+k)=y:=fun k y e=>by
 match k,e with
 | 0,e=>have b7:=aH e;clear e;clear e;subst b7;exact ⟨by omega,rfl⟩
 | 1,e=>have cw:=aH e;clear e;clear e;subst cw;exact ⟨by omega,rfl⟩
theorem B8(q a b:Int)(l:List Int):∀(k:Nat) (y:Int),[a,b][k]?=some y->Jl (q::a::b::l) (57+k)=y:=fun k y e=>(tV (Nat.le_add_right 59 k) q a b l k y e).2
theorem sV(v:Bool)(u:Str)(q:Bool):(jx v u q).all (jU (47+(jx v u q).length) 2)=true:=by induction v<;>induction q<;>rfl
theorem Ht(v:Bool)(u:Str):(Pd v).length=47+(jx v u false).length:=by induction v<;>rfl
theorem Hs(v:Bool)(k:KU)(u:Str):(F0 v k).length=47+(jx v u true).length:=by
 induction k with
 |no=>induction v<;>rfl
 |yes a b=>induction a<;>induction b<;>induction v<;>rfl
theorem yD(v:Bool)(u:Str):(Hr v).length=47+(jx v u true).length:=by induction v<;>rfl
theorem LG(v:Bool):∃l,Hr v=List.range 47++l:=by
 induction v with
 |true=>exact ⟨(List.range 74).drop 47,by kernel_rfl⟩
 |false=>exact ⟨(List.range 72).drop 47,by kernel_rfl⟩
theorem HL(v bt:Bool)(u:Str):((F5 v bt).all fun p=>kB (47+(jx v u false).length) 2 p.2)=true:=by induction v<;>rfl
theorem sN(v bt:Bool)(u:Str):((pn v bt).all fun p=>kB (47+(jx v u true).length) 2 p.2)=true:=by induction v<;>rfl
theorem HD{J:Nat->Int}:∀(i:Nat) (p:Int×Tok),([]:List (Int×Tok))[i]?=some p->J (N+i)=p.1:=fun _ _ e=>zS e
section
theorem O2(ok:r.Ok)(hb:r.q%2=bI b)(hd:56<=d)(h:Jl (r.q::r.q::l) d=r.q%7):aX r (Jl (r.q::r.q::l)) {dA with ops:=[(.Mod,57,2, .int (bI b)),(.Mod,57,7, .d d)]}:=
 oF rfl rfl rfl rfl rfl rfl rfl rfl rfl rfl rfl (fun _ _ _ _ _ e=>fR (all_cons (eH (J:=Jl (r.q::r.q::l)) (a:=57) (zd rfl) (by decide) (by decide) (.inl (congrArg AV.int hb.symm))) (all_cons (eH (J:=Jl (r.q::r.q::l)) (a:=57) (zd rfl) (by decide) (by decide) (.inr ⟨d,rfl,hd,h⟩)) all_nil)) e) (bR rfl)
theorem Bs(tG:eb G)(bz:T.cx=⟨[],none⟩)(hn:35<=n)(hb:r.q%2=bI b)(inv:Inv G T n iD r true m s.heap (lE0 v bt ++ [f_ "q" (.int r.q)]) W)
  (post:∀ae m' h' tk,cF G T n iD r true (jx v (wj b) false) [r.q,r.q%7] m' h' (F5 v bt) ae->BH W ae->wpAny (model G.prog G.w) T.A (execs rest T.env) Q E {s with heap:=h',toks:=tk}):wpAny (model G.prog G.w) T.A (execs (fh.take 1++rest) T.env) Q E s:=by
 refine aU (yK "q" inv.rep.loc (by kernel_rfl) inv.rep.n3) fun t hl=>?_
 refine qC (ia (aw (aw (Dg r.x.l bt) v (ft v)) b (ft b))) fun σ e1 e2 e3 e4 e5=>?_
 refine fE (J:=Jl [r.q,r.q,r.q%7]) (P:=pA b) (r':=r) (ex:=[]) (ex':=jx v (wj b) false) (xs:=[]) (xs':=[r.q,r.q%7]) (qs:=[(r.q,t)]) (pi:=Pd v) (loc':=F5 v bt) tG inv hn (O2 inv.ok hb (by omega) rfl) rfl Ay (fun j p e=>?_) hl rest (by refine aa (tG.gl ..) (aa (bz ..) (aa (gx ..) ?_));exact e1)
  (sV v _ false) (tV (by omega) _ _ _ []) (ic e3 e4 e5 (Ht v _) (LI v) (bH r _) rfl inv.ok (HL v bt _)) fun ae m' h' tk bF hr=>post ae m' h' tk bF (hr.IW rfl)
 match j,e with
 | 0,e=>have dC:=aH e;clear e;clear e;subst dC;rfl
theorem Df(ok:r.Ok)(J:Nat->Int)(v bt:Bool)(u:Str):∃P k,aX r J P/\jn (F0 v k) (pn v bt) (nC iD P ((fh.drop 1).take 2) (F5 v bt) (Mem.of (gy true r.x.l (jx v u false))) 59)=pY .next 59 (jx v u true) (F0 v k) (pn v bt) r.x.l same:=by
 induction v with
 |true=>exact ⟨_,_,K3 ok J,aw (Ag r.x.l bt u) (UD r) (Ef _)⟩
 |false=>exact ⟨_,_,K4 ok J,aw (aw (Ah bt u) r.x (oA _)) (UE r) (Ef _)⟩
theorem Br(tG:eb G)(bz:T.cx=⟨[],none⟩)(hn:35<=n)(inv:cF G T n iD r true (jx v u false) [r.q,r.q%7] m s.heap (F5 v bt) W)
  (post:∀ae m' h' tk,cF G T n iD r true (jx v u true) [r.q,r.q%7] m' h' (pn v bt) ae->BH W ae->wpAny (model G.prog G.w) T.A (execs rest T.env) Q E {s with heap:=h',toks:=tk}):wpAny (model G.prog G.w) T.A (execs ((fh.drop 1).take 2++rest) T.env) Q E s:=by
 refine iJ (Df inv.ok (Jl [r.q,r.q,r.q%7]) v bt u) fun P k rk run=>?_
 refine qC (ia run) fun σ e1 e2 e3 e4 e5=>?_
 exact fE (J:=Jl [r.q,r.q,r.q%7]) (P:=P) (r':=r) (ex:=jx v u false) (ex':=jx v u true) (xs:=[r.q,r.q%7]) (xs':=[r.q,r.q%7]) (qs:=[]) (pi:=F0 v k) (loc':=pn v bt) tG inv hn rk rfl (B8 _ _ _ []) HD (inv.rep.loc.mono (W.cp [])) rest (by refine aa tG.gl (aa bz ?_);exact e1)
  (sV v _ true) (tV (by omega) _ _ _ []) (ic e3 e4 e5 (Hs v k u) (LH v k) (bH r _) rfl inv.ok (sN v bt u)) fun ae m' h' tk bF hr=>post ae m' h' tk bF (hr.IW rfl)
theorem Bq(tG:eb G)(bz:T.cx=⟨[],none⟩)(hn:35<=n)(h0:r.res 0≠ .none)(inv:cF G T n iD r true (jx v u true) [r.q,r.q%7] m s.heap (pn v bt) W)
  (post:∀r' ae m' h' tk,r'.Ok->r'.res 0≠ .none->(∀j,5<=j->r'.res j=r.res j)->r'.x=r.x->r'.q=r.q->cF G T n iD r' true (jx v u true) [r.q,r.q%7] m' h' (pn v bt) ae->BH W ae->wpAny (model G.prog G.w) T.A (execs rest T.env) Q E {s with heap:=h',toks:=tk}):wpAny (model G.prog G.w) T.A (execs ((fh.drop 3).take 1++rest) T.env) Q E s:=by
 have BS:=LG v
 induction bt with
 |false=>
  refine qC (ia (aw (Af r.x.l u) v (ft v))) fun σ e1 e2 e3 e4 e5=>?_
  exact fE (J:=Jl [r.q,r.q,r.q%7]) (P:=dA) (r':=r) (ex:=jx v u true) (ex':=jx v u true) (xs:=[r.q,r.q%7]) (xs':=[r.q,r.q%7]) (qs:=[]) (pi:=Hr v) (loc':=pn v false) tG inv hn hQ rfl (B8 _ _ _ []) HD (inv.rep.loc.mono (W.cp [])) rest (by refine aa tG.gl (aa bz ?_);exact e1)
   (sV v _ true) (tV (by omega) _ _ _ []) (ic e3 e4 e5 (yD v u) (DJ v) (bH r _) rfl inv.ok (sN v false u)) fun ae m' h' tk bF hr=>post r ae m' h' tk inv.ok h0 (fun _ _=>rfl) rfl rfl bF (BS.elim fun _ e=>hr.IW e)
 |true=>
  refine ay (uv (r.q+1)) fun x hx hm=>?_
  refine qC (ia (aw (aw (aw (De r.x.l u) v (ft v)) x hm) _ (uu (r.q+1)))) fun σ e1 e2 e3 e4 e5=>?_
  generalize hJ:Jl (r.q::r.q::r.q%7::(r.q+1)::bif x.gX then [(r.q+1)%2,(r.q+1)%5] else [(r.q+1)%5])=J at *
  have j56:J 56=r.q:=by refine aa (Eq.symm hJ) ?_;rfl
  have I7:J 57=r.q:=by refine aa (Eq.symm hJ) ?_;rfl
  have I6:J 59=r.q+1:=by refine aa (Eq.symm hJ) ?_;rfl
  have hd:x.gX=true->J 60=(r.q+1)%2/\J (60+1)=(r.q+1)%5:=fun h=>by refine aa (Eq.symm hJ) (aa h ?_);exact ⟨rfl,rfl⟩
  have ht:x.gX=false->J 60=(r.q+1)%5:=fun h=>by refine aa (Eq.symm hJ) (aa h ?_);rfl
  have add:IA J (.Add,57,1, .d 59):=⟨r.q+1,zd rfl,by show some (J 57+1)=_;exact aa I7 rfl,by decide, .inr ⟨59,rfl,by omega,I6⟩⟩
  have rk:aX r J (pC x ((r.q+1)%3)):=oF rfl rfl rfl rfl rfl rfl rfl rfl rfl rfl rfl (fun _ _ _ _ _ e=>fR (all_cons add (nP (a:=59) (b:=60) (zd rfl) (zd rfl) (by refine aa I6 ?_;exact hx) (by exact aa I6 rfl) (by refine aa I6 ?_;exact hd) (by refine aa I6 ?_;exact ht))) e) (bR rfl)
  have hJx:∀(k:Nat) (y:Int),[r.q,r.q%7][k]?=some y->57+k<σ.nd/\J (57+k)=y:=by
   refine aa (Eq.symm hJ) ?_
   refine tV ?_ _ _ _ _
   refine aa e2 ?_
   cases x.gX<;>cases decide ((r.q+1)%3=0)<;>decide
  refine fE (J:=J) (P:=pC x ((r.q+1)%3)) (r':=r.put 0 (hW (r.q+1) x) (nz (r.q+1) ((r.q+1)%3))) (ex:=jx v u true) (ex':=jx v u true) (xs:=[r.q,r.q%7]) (xs':=[r.q,r.q%7]) (qs:=[]) (pi:=Hr v) (loc':=pn v true) tG inv hn rk j56 (fun k y e=>(hJx k y e).2) HD (inv.rep.loc.mono (W.cp [])) rest (by refine aa tG.gl (aa bz ?_);exact e1)
   (sV v _ true) hJx (ic e3 e4 e5 (yD v u) (DJ v) (nN r J (zd rfl) (zd rfl) hd ht) j56 (Rec.oP inv.ok (zd rfl) (nM _ _)) (sN v true u)) fun ae m' h' tk bF hr=>post _ ae m' h' tk bF.ok ?_ (fun j hj=>?_) rfl rfl bF (BS.elim fun _ e=>hr.IW e)
  ·show hW _ _≠_
   unfold hW
   cases x.gX<;>exact nofun
  ·show (bif Nat.beq j 0 then _ else r.res j)=_
   refine aa (show Nat.beq j 0=false from Bool.eq_false_iff.mpr fun e=>by have:=iL e;omega) ?_;rfl
end
section
variable {qs:List (Int×Tok)}
theorem ng(tG:eb G)(inv:cF G T n sc r c ex xs m s.heap loc W)(hn:35<=n)(k:aX r J P)(hJ:J 56=r.q)(hx:∀k y,xs[k]?=some y->J (57+k)=y)(hq:∀i p,qs[i]?=some p->J (57+xs.length+i)=p.1)(hl:cv (W.ext (qs.map cP)) m bW)
  (run:(den P (cH P 30) (tO G.gl (.fn sc) yn)).qw T.cx ⟨bW,Mem.of (gy c r.x.l ex),57+xs.length+(qs.map cP).length⟩=some (fl,aF))
  (hex:ex'.all (jU (47+ex'.length) xs'.length)=true) (HR:∀k y,xs'[k]?=some y->57+k<aF.nd/\J (57+k)=y) (lv:LeaveX r r' J pi c' ex' xs'.length loc' aF)
  (post:∀W₁ ae m' h' tk fv,qd W₁ fl fv->cF G T n sc r' c' ex' xs' m' h' loc' ae->dJ pi W ae->Q fv {s with heap:=h',toks:=tk}):wpAny (model G.prog G.w) T.A (execs yn T.env) Q E s:=by
 have ga:=k.ga tG
 have io:=k.io G
 refine uO ga.gk ga.ca (xd ga.gk ga.ca io (du ga io 30)) yn (.fn sc) T _ m _ s fl aF Q E (inv.BO hn _) (inv.enter k.tab hJ hx hq hl) run fun W₁ m' h' tk fv le ak rf=>?_
 refine ay (inv.leave hJ k.tab.cls le ak hex HR lv) fun ae bF hr=>?_
 exact post W₁ ae m' h' tk fv rf bF hr
theorem Dd(subs:Sb)(v bt b:Bool):jn bl [] (nC iD (pD b) (fh.drop 4) (pn v bt) (Mem.of (gy true subs.l (jx v (wj b) true))) 59)=pY (.ret (.bool true)) 60 [] bl [] subs.l (mA same (ua v b subs.l)):=by
 induction v with
 |true=>exact aw (Ad subs.l bt) b (ft b)
 |false=>exact aw (aw (Ae bt) subs (oA _)) b (ft b)
theorem Bp(tG:eb G)(bz:T.cx=⟨[],none⟩)(hn:35<=n)(hb:r.q%2=bI b)(h0:r.res 0≠ .none)(h5:v=true->r.res 5≠ .none)(inv:cF G T n iD r true (jx v (wj b) true) [r.q,r.q%7] m s.heap (pn v bt) W)
  (post:∀ae m' h' tk,Inv G T n iD (r.i4 v b) true m' h' [] ae->BH W ae->Q (.ret (.bool true)) {s with heap:=h',toks:=tk}):wpAny (model G.prog G.w) T.A (execs (fh.drop 4) T.env) Q E s:=by
 refine qC (ia (Dd r.x v bt b)) fun σ e1 e2 e3 e4 e5=>?_
 have hx:(r.i4 v b).x=r.x/\(r.i4 v b).q=r.q:=by induction v<;>exact ⟨rfl,rfl⟩
 refine ng (J:=Jl [r.q,r.q,r.q%7,r.q%7]) (P:=pD b) (r':=r.i4 v b) (ex:=jx v (wj b) true) (ex':=[]) (xs:=[r.q,r.q%7]) (xs':=[]) (qs:=[]) (pi:=bl) (loc':=[]) tG inv hn (O2 inv.ok hb (zd rfl) rfl) rfl (B8 _ _ _ _) HD (inv.rep.loc.mono (W.cp [])) (by refine aa tG.gl (aa bz ?_);exact e1)
  rfl m7 (ic e3 e4 (by refine aa hx.1 ?_;exact e5) eG gi (E6 r _ v b rfl rfl) hx.2.symm (H8 inv.ok b h0 h5) rfl) fun W₁ ae m' h' tk fv rf bF hr=>?_
 refine ay rf fun w b7 rw=>?_;clear rf;subst b7
 subst rw
 exact post ae m' h' tk bF (hr.IW (l:=[]) (List.append_nil _).symm)
end
theorem Bl(v bt:Bool)(q:Int):kl (rl (679, "_law_end",H.B2,[])).params (rl (679, "_law_end",H.B2,[])).ki [.o 5, .o 10,sA (NU v), .o 7, .o 8, .o 6, .o 9, .int q, .bool bt] []=some [f_ "manager" (.o 5),f_ "tasks" (.o 10),f_ "name" (sA (NU v)),f_ "results" (.o 7),f_ "values" (.o 8),f_ "subs" (.o 6),f_ "kept" (.o 9),f_ "q" (.int q),f_ "between" (.bool bt)]:=by kernel_rfl
theorem ER:(679, "_law_end",H.B2,[])∈ET:=kW (i:=42) rfl
theorem E8:fh=fh.take 1++((fh.drop 1).take 2++((fh.drop 3).take 1++fh.drop 4)):=by
 have h1:fh.drop (3+1)=(fh.drop 3).drop 1:=List.drop_drop.symm
 have h2:fh.drop (1+2)=(fh.drop 1).drop 2:=List.drop_drop.symm
 have h1:fh.drop 4=(fh.drop 3).drop 1:=h1
 have h2:fh.drop 3=(fh.drop 1).drop 2:=h2
 rw [h1,List.take_append_drop,h2,List.take_append_drop,List.take_append_drop]
section
variable {s:Shared}
theorem Inv.back(inv:Inv G T n sc r true m s.heap loc W)(m3:∀x v,ah x loc=some v->cJ 47 v=true)(bc:Inv G dm n' sc' r' true m₁ h' xr ae)(hs:BH W ae)
  (k:∀l,cv ae m l->T.Rep (G.at aR o6) h' m ae (bQ ⟨xr,Mem.of (gy true r'.x.l []),57⟩ l)):Inv G T n sc r' true m h' loc ae:=by
 have i2:Inv G T n sc r' true m h' [] ae:=⟨k [] (fun _ _ e=>(zS e)),bc.ie,bc.Gh,bc.ok,inv.okS hs,inv.Bx⟩
 exact Inv.Dp i2 hs.bg inv.rep.loc m3
theorem E7(tG:eb G)(inv:Inv G T (n+1) sc r true m s.heap loc W)(hn:35<=n)(m3:∀x v,ah x loc=some v->cJ 47 v=true)(h0:r.res 0≠ .none)(h5:v=true->r.res 5≠ .none)(hu:bE W [.o 5, .o 10,sA (NU v), .o 7, .o 8, .o 6, .o 9, .int r.q, .bool bt] us)
  (post:∀r' ae h' tk,r'.res 0≠ .none->(v=false\/r.res 5≠ .none->r'.res 5≠ .none)->r'.q=r.q->r'.x=r.x->Inv G T (n+1) sc r' true m h' loc ae->dJ bl W ae->Q (.bool true) {s with heap:=h',toks:=tk}):wpAny (model G.prog G.w) T.A (call (.ref 679) us []) Q E s:=by
 refine aU tG.K fun P hK=>?_
 refine eN (vA (G:=G.at aR o6) hK ER) fun D O hB hS=>?_
 refine Ij (G:=G.at aR o6) (n:=n) O (by kernel_rfl) inv.gH.at inv.rep hu (Bl v bt r.q) fun dm m₁ aq ar iI j7 bz gM ak back=>?_
 have hS':D.scope.names=iD:=by refine aa hS ?_;rfl
 replace gM:=hS'▸gM
 have ff:Inv G dm n iD r true m₁ aq (lE0 v bt ++ [f_ "q" (.int r.q)]) W:=⟨ak.locs ak.fr ak.nw (ak.loc.sub (by kernel_rfl)),inv.ie,inv.Gh,inv.ok,gM.at,fun x i e=>by replace e:=bz▸e;exact zS e⟩
 refine aa hB (aa (show H.fB H.B2=fh from rfl) (aa E8 ?_))
 obtain ⟨b,hb⟩:∃b,r.q%2=bI b:=⟨odd r.q,(sE r.q).trans (by cases odd r.q<;>rfl)⟩
 show wpAny (model G.prog G.w) _ _ _ _ _
 refine Bs (s:={s with heap:=aq,toks:=ar}) tG bz hn hb ff fun ae m₂ aJ aG bc s2=>?_
 refine Br (s:={s with heap:=aJ,toks:=aG}) tG bz hn bc fun bu gT bq aQ bJ s3=>?_
 refine Bq (s:={s with heap:=bq,toks:=aQ}) tG bz hn h0 bJ fun ek ew gm cQ cz ok4 n0 n5 hx hq cq s4=>?_
 replace cq:=(Eq.symm hq)▸cq;replace hb:=(Eq.symm hq)▸hb
 refine Bp (s:={s with heap:=cQ,toks:=cz}) tG bz hn hb n0 (fun e=>by refine aa (n5 5 (Nat.le_refl 5)) ?_;exact h5 e) cq fun kR uY iX gK dh s5=>?_
 have IW:=((s2.trans s3).trans s4).trans s5
 refine back (G.at aR o6) kR iX gK uY _ _ dh.rep fun k=>?_
 have kK:=Inv.back inv m3 dh IW k
 have e0:(ek.i4 v b).res 0=ek.res 0:=by induction v<;>rfl
 have eq:(ek.i4 v b).q=ek.q:=by induction v<;>rfl
 have ex:(ek.i4 v b).x=ek.x:=by induction v<;>rfl
 refine post (ek.i4 v b) kR iX gK (by refine aa e0 ?_;exact n0) (fun h=>?_) (by exact aa eq (aa hq rfl)) (by exact aa ex (aa hx rfl)) kK IW.bg
 induction v with
 |false=>exact nofun
 |true=>show ek.res 5≠_;refine aa (n5 5 (Nat.le_refl 5)) ?_;exact h.resolve_left nofun
end
theorem Bw{K:Frag}
  {R:Result->Shared->Prop}
  (B:Below A₀ base [] h₀) (F:Fr h₀ L s.heap m) (Wg:K.In h₀) (N:News h₀ L s.heap news) (T:Top p loose mean mg mb h₀) (hA:A.frames=some [env]) (hf:env.frame=some L) (Ex:env.scope.kind= .function)
  (ho:K.lookup f=some ⟨oc,od, .func (fnOf name qual params body scope dV kV doc pm an nk ct),Yk⟩) (Ez:codeIn K nk qual=true) (UR:A.depth<recursionLimit)
  (U8:BindsTo s (fnOf name qual params body scope dV kV doc pm an nk ct) args binds) (pL:∀y∈binds,scope.names.lookup y.1=some .local)
  (h:∀g L' aq,Fr h₀ L g m->Fr g L' aq (fun y=>binds.reverse.lookup y)->News g L' aq news->Below A base [env] g->K.In g->Top p loose mean mg mb g->KtsDicts ([env].filterMap (·.frame)) g->
   wpAny (model prog w) (A.deeper (envOf qual scope L' f nk)) (execs body (envOf qual scope L' f nk))
    (fun fl s'=>LeaveS0 ([env].filterMap (·.frame)) h₀ L m g R (match fl with | .ret v=>v | _=> .none) s')
    (fun e s'=>wpAny (model prog w) (A.deeper (envOf qual scope L' f nk)) (leaving (envOf qual scope L' f nk) e) (fun _ XH=>R (.error e) XH) (fun e' XH=>R (.error e') XH) s')
    {s with heap:=aq,toks:=s.toks+binds.length})
  (MH:scope.isCoroutine=false) (xG:scope.isGenerator=false) (hk:scope.kind= .function)
  (iP:∀x∈scope.names,x.2≠ .cell):codeAny (model prog w) A (.call (.ref f) args) R s:=by
 have X:=Wg.keeps F.keep
 refine tJ (groundX (R:=R) B F N hA hf Ex) fun FG BG st _=>?_
 have U4:[env].filterMap (·.frame)=[L]:=by refine aa List.filterMap_cons (aa hf ?_);rfl
 refine codeAny_call_def (fd:=fnOf name qual params body scope dV kV doc pm an nk ct) (body:=body) (binds:=binds) UR (X _ _ ho) rfl (T.nolimit.keeps F.keep) (codeRec_of X Ez) rfl U8 iP pL (fun aq hns q0=>?_) MH xG hk
 refine mj FG.ns fun oL es ep hLg hLd hLk hLf=>?_
 refine wpAny_mono (h _ s.heap.objs.size aq FG ⟨hns,fun b o e=>q0 b o (of_hideAll _ e),Nat.le_of_eq (hideAll_size _ _)⟩
  (fun p hp=>⟨q0 _ _ (N p hp).1,Nat.ne_of_lt (Heap.lt_size (N p hp).1),hideAll_none _ (List.mem_map_of_mem hp)⟩) BG (Wg.keeps st) (T.keeps st) (fun b hb=>by
   replace hb:=U4▸hb
   refine aa (dU hb) ?_
   exact ⟨oL,es,ep,hLg,hLd⟩)) (fun fl s' hl=>?_) fun _ _ y=>y
 refine ID hl fun g' L' m' pd T' F' N' k=>?_;clear hl
 have Ut:h₀.get? L=none:=kts_self F
 refine aU (T'.up hLg) fun sl hs=>?_
 refine k ⟨⟨_,es,ep,F'.keep _ _ hs,hLd,hLk,hLf⟩,fun b o e=>F'.keep b o (T'.other b o (st b o e) (fun q=>by
  replace q:=U4▸q
  replace e:=(dU q)▸e;replace e:=Ut▸e
  cases e)),F.above⟩ fun p hp=>⟨(N' p hp).1,fun q=>?_,?_⟩
 ·have:=(N' p hp).2.2;replace this:=q▸this;replace this:=hs▸this;cases this
 ·generalize q:h₀.get? p.1=bZ;induction bZ with
  |none=>rfl
  |some o=>
   refine aU (T'.up (st _ _ q)) fun sl' hs'=>?_
   have:=(N' p hp).2.2
   replace this:=hs'▸this
   cases this
noncomputable def bx(T:At)(q:Str)(D:Ol)(f:Addr)(g:Heap)(L':Addr):At:=⟨T.A,T.A.deeper (envOf q D.scope L' f D.nk),T.base,T.aN::T.outer,g,L',envOf q D.scope L' f D.nk,envOf q D.scope L' f D.nk,T.fz,⟨[],none⟩⟩
section
variable {T:At}
theorem tp(O:nH G f fi D)(dI:fi.cells=[])(ok:T.Ok G (n+1) b W)(B':Below T.A T.base (T.aN::T.outer) g)(X':G.K.In g)(T':Top G.p G.loose G.mean G.mg G.mb g):(bx T fi.qual D f g L').Ok G n (.fn D.scope.names) W:=by
 have S:=ok.gL
 have hd:=S.hd
 have hu:=S.hu
 have U7:=O.hc.symm.trans dI
 refine ⟨⟨B',X',T',?_,rfl,O.hk,S.hh,?_,?_⟩,rfl,rfl,fi.qual,D.scope,f,D.nk,[],rfl,rfl,O.hk,?_,fun y e=>absurd e (nQ U7 y)⟩
 ·show T.A.frames.map _=_;refine aa S.hA ?_;rfl
 ·show T.A.depth+1+3*n<=900;omega
 ·show T.A.units+3+20*n<=8000;omega
 ·intro x i e;exact zS e
theorem vr(O:nH G f fi D)(dI:fi.cells=[])(ok:T.Ok G (n+1) b W)(Rp:T.Rep G s.heap m W σ)(rp:bE W pos us)(e1:kl fi.params fi.ki pos []=some binds):
  ∃bs,BindsTo s (fnOf D.name fi.qual D.params D.body D.scope D.dV D.kV D.doc D.pm D.an D.nk D.ct) ⟨us,[]⟩ bs/\(∀y∈bs,D.scope.names.lookup y.1=some .local)/\cv W (fun y=>bs.reverse.lookup y) binds:=by
 refine ay (O.hd W) fun M6 rd ME=>?_
 replace e1:=O.UT▸e1
 refine eN (tm (fd:=fnOf D.name fi.qual D.params D.body D.scope D.dV D.kV D.doc D.pm D.an D.nk D.ct) O.hp (fun M A E Q h=>ME s (ok.gL.X.keeps Rp.fr.keep) M A E Q h) rp rd .nil e1) fun bs Gd rb sub=>?_
 have nb:=sub.nodup O.nd
 refine ⟨bs,Gd,fun y hy=>(O.kinds _ (sub.subset (List.mem_map_of_mem (f:=(·.1)) hy))).resolve_right (nQ (O.hc.symm.trans dI) _),fun x v e=>?_⟩
 have g:=rb.look x
 replace g:=e▸g
 refine g.someE fun u e1 e2=>?_
 exact ⟨u,(iw nb x).trans e1,e2⟩
theorem Fw(O:nH G f fi D)(dI:fi.cells=[])(iB:T.outer=[])(ok:T.Ok G (n+1) b W)(Rp:T.Rep G s.heap m W σ)(rp:bE W pos us)(e1:kl fi.params fi.ki pos []=some binds)
  (body:∀g L' m₁ aq ar iI j7,(bx T fi.qual D f g L').Ok G n (.fn D.scope.names) W->(bx T fi.qual D f g L').Rep G aq m₁ W (bQ σ binds)->KtsDicts ((T.aN::T.outer).filterMap (·.frame)) g->
   (∀(G':Gx) W' h' tK m' aY v g',KtsTurn ((T.aN::T.outer).filterMap (·.frame)) g g'->Rep G' g' L' T.fz h' m' W' aY->((∀l,cv W' m l->T.Rep G' h' m W' (bQ aY l))->Q v {s with heap:=h',toks:=tK})->iI (.ret v) {s with heap:=h',toks:=tK})->(∀x,PassesOwnAt (model G.prog G.w) ((bx T fi.qual D f g L').A.mark (some (.ref x))) (bx T fi.qual D f g L').A (bx T fi.qual D f g L').env j7)->
   wpAny (model G.prog G.w) (bx T fi.qual D f g L').A (execs D.body (bx T fi.qual D f g L').env) iI j7 {s with heap:=aq,toks:=ar}):
  wpAny (model G.prog G.w) T.A (call (.ref f) us []) Q E s:=by
 have S:=ok.gL
 have hd:=S.hd
 refine wpAny_call ?_
 refine eN (vr O dI ok Rp rp e1) fun bs Gd hl pL=>?_
 have hA:=S.hA
 have B:=S.B
 replace hA:=iB▸hA;replace B:=iB▸B
 refine Bw B Rp.fr S.X Rp.nw S.T hA S.hf S.Ex O.ho O.Ez (by show T.A.depth<1000;omega) Gd hl ?_ O.MH O.xG O.hk (lC (O.hc.symm.trans dI))
 intro g L' aq FG F' N' B' X' T' D'
 have U4:(T.aN::T.outer)=[T.aN]:=by exact aa iB rfl
 refine body g L' _ aq (s.toks+bs.length) _ _ (tp O dI ok (by refine aa iB ?_;exact B') X' T') ⟨F',N',Rp.nd,Rp.mem,Rp.n1,Rp.n2,Rp.n3,Rp.ob,pL,Rp.dat⟩ (by refine aa U4 ?_;exact D') (fun G' W' h' tK m' aY v g' T2 az k=>?_) fun _=>PySem.PassesOwnAt.leaving
 replace T2:=U4▸T2
 exact ⟨g',L',m',W'.news T.fz,T2,az.fr,az.nw,fun F N=>k fun l hl=>⟨F,N,az.nd,az.mem,az.n1,az.n2,az.n3,az.ob,hl,az.dat⟩⟩
theorem xU(O:nH G f fi D)(dI:fi.cells=[])(ok:T.Ok G (n+1) b W)(Rp:T.Rep G s.heap m W σ)(rp:bE W pos us)(e1:kl fi.params fi.ki pos []=some binds)
  (body:∀g L' m₁ aq ar iI j7,Fr T.h₀ T.L g m->(bx T fi.qual D f g L').Ok G n (.fn D.scope.names) W->(bx T fi.qual D f g L').Rep G aq m₁ W (bQ σ binds)->
   (∀e C vs W' m' h' tK aF jM,(bx T fi.qual D f g L').Rep G h' m' W' aF->Heap.MadeExcOf h' jM e (.ref C) vs->(∀h3 t,RaisedS T.base g (T.aN::T.outer) e (.ref C) t vs (W'.news T.fz) h3->g.UpToSlots h3->E (.ref e) {s with heap:=h3,toks:=tK})->j7 (.ref e) {s with heap:=jM,toks:=tK})->
   wpAny (model G.prog G.w) (bx T fi.qual D f g L').A (execs D.body (bx T fi.qual D f g L').env) iI j7 {s with heap:=aq,toks:=ar}):
  wpAny (model G.prog G.w) T.A (call (.ref f) us []) Q E s:=by
 have S:=ok.gL
 have hd:=S.hd
 refine wpAny_call ?_
 refine eN (vr O dI ok Rp rp e1) fun bs Gd hl pL=>?_
 refine code_def S.B Rp.fr S.X Rp.nw S.T S.hA S.hf S.Ex O.ho O.Ez (by show T.A.depth<1000;omega) Gd hl ?_ O.MH O.xG O.hk (lC (O.hc.symm.trans dI))
 intro g L' aq FG F' N' B' X' T'
 refine body g L' _ aq (s.toks+bs.length) _ _ FG (tp O dI ok B' X' T') ⟨F',N',Rp.nd,Rp.mem,Rp.n1,Rp.n2,Rp.n3,Rp.ob,pL,Rp.dat⟩ fun e C vs W' m' h' tK aF jM az hx k=>?_
 exact leave_raiseS (s':={s with heap:=jM,toks:=tK}) B' hx az.fr az.nw (fun h3 t R _ U=>k h3 t R U) O.hk
end
end
section
open PySem
noncomputable def wm:List Stmt:=H.fB H.qh
noncomputable def sj:List (Str×NameKind):=(H.fS H.qh).names
noncomputable def AX:List Stmt:=H.fB H.iR
noncomputable def pM:List (Str×NameKind):=(H.fS H.iR).names
noncomputable def Xv(s:Stmt):List Stmt:=LW (xB s) 0
noncomputable def lU:Stmt:=bO (Xv (bO wm 0)) 0
noncomputable def Ve:Expr:=bw (bO AX 0)
noncomputable def gv2:Stmt:=bO AX 1
noncomputable def gv3:Expr:=bw (bO AX 2)
noncomputable def gv4:Stmt:=bO (bodyOf (bO AX 2)) 0
noncomputable def kD(s:Stmt):Expr:=dR (xE (dR (xS s) 0)) 1
noncomputable def wW(e:Expr):Expr:=dR (xE e) 1
noncomputable def NV(nm:String):aL:=[f_ "self" (.o 5),f_ "task_id" (sA nm),f_ "key_name" (sA "n")]
noncomputable def lR(nm:String):aL:=[f_ "manager" (.o 5),f_ "results" (.o 7),f_ "values" (.o 8),f_ "name" (sA nm)]
noncomputable def BM:Cx:=⟨[],none⟩
noncomputable def Xu(N:List (Str×NameKind))(P:bA)(e:Expr):Ts:=(den P (cH P 30) (cE aT (.fn N) e)).ts
noncomputable def Vr(N:List (Str×NameKind))(P:bA)(e:Expr):Ev:=(den P (cH P 30) (cE aT (.fn N) e)).ev
noncomputable def exN(N:List (Str×NameKind))(P:bA)(st:Stmt):Xc:=(den P (cH P 30) (cS aT (.fn N) st)).ex
noncomputable def mB(P:bA)(nm:String)(a:AV)(σ:St):R AF:=nC sj P (wm.drop 1) (lR nm ++ [f_ "got" a]) σ.mem σ.nd
noncomputable def D9(e:Expr):Expr:=dR (xE e) 0
noncomputable def Ii(a:AV)(x:Str)(k:R AF):R AF:=match a with
 | .str s=>Bool.rec none k (sq s x)
 |_=>none
noncomputable def VM(o:AO)(x y:Str)(k:R AF):R AF:=match o with
 | .tup [.str s, .str t]=>Bool.rec none k (sq s x&&sq t y)
 |_=>none
noncomputable def VL(m:Mem)(a:AV)(x y:Str)(k:R AF):R AF:=match a with
 | .o j=>ob (m.get j) fun o=>VM o x y k
 |_=>none
noncomputable def XJ:Stmt:=bO (bodyOf (bO AX 0)) 0
noncomputable def XI:Stmt:=bO (bodyOf (bO AX 2)) 1
noncomputable def tx1:Str:=S "taskid '%s' has no computed value!"
noncomputable def tx2:Str:=S "Invalid arg name. Task '%s' has no value for '%s'."
noncomputable def NR(P:bA)(nm:String)(mem:Mem)(nd:Nat):R AF:=cj (Xu pM P Ve BM ⟨NV nm,mem,nd⟩) fun b σ=>cond b (cj (Vr pM P (D9 (kD XJ)) BM σ) fun a σ=>Ii a tx1 (cj (Vr pM P (wW (kD XJ)) BM σ) fun a σ=>Ii a (S nm) (mB P nm .none σ))) none
noncomputable def WT(x:R AF)(k:St->R AF):R AF:=cj x fun fl σ=>match fl with
 | .next=>k σ
 |_=>none
noncomputable def WM(P:bA)(nm:String)(mem:Mem)(nd:Nat):R AF:=cj (Xu pM P Ve BM ⟨NV nm,mem,nd⟩) fun b σ=>cond b none (WT (exN pM P gv2 BM σ) fun σ=>cj (Xu pM P gv3 BM σ) fun b σ=>cond b (WT (exN pM P gv4 BM σ) fun σ=>cj (Vr pM P (D9 (kD XI)) BM σ) fun a σ=>Ii a tx2 (cj (Vr pM P (wW (kD XI)) BM σ) fun a σ=>VL σ.mem a (S nm) (S "n") (mB P nm .none σ))) none)
noncomputable def rdC(P:bA)(nm:String)(mem:Mem)(nd:Nat):R AF:=WT (exN sj P lU BM ⟨lR nm,mem,nd⟩) fun σ=>nC sj P (wm.drop 1) σ.loc σ.mem σ.nd
noncomputable def cN:Nat:=code (S "n")
noncomputable def GB(k:Nat):List (Nat×Tg):=[(k, .none),(14+4*k, .none),(16+4*k, .none),(7+k, .dict false)]
noncomputable def z0(k:Nat)(t:Tg×Tg)(hn:Bool):List (Nat×Tg):=[(k,t.1),(14+4*k,t.2),(15+4*k, .dict hn),(16+4*k, .str true),(7+k, .dict hn)]
noncomputable def isTup:Tg->Bool
 | .tuple=>true
 |_=>false
noncomputable def Pf(k:Nat):bA:={aR with tags:=bB 70 (GB k),eqs:=[(14+4*k,k,true)],dg:=[(7+k,cN,none)],kn:=56,spec:=spT (GB k)}
noncomputable def LJ(k:Nat)(t:Tg×Tg)(hn:Bool):bA:={aR with tags:=bB 70 (z0 k t hn),eqs:=(bif isTup t.1 then [] else [(14+4*k,k,true)])++(bif hn then [(58,57,true)] else []),dg:=bif hn then [(7+k,cN,some 57),(15+4*k,cN,some 58)] else [(7+k,cN,none)],kn:=56,spec:=spT (z0 k t hn)}
noncomputable def O3:List (Tg×Tg):=[(.tuple, .str true),(.dict true, .dict true),(.str true, .str true),(.str false, .str false)]
noncomputable def mq:List (Nat×String):=[(0, "M"),(1, "G:1"),(2, "G:2"),(3, "G:3"),(4, "Gx"),(5, "U"),(6, "V")]
noncomputable def i4(nd:Nat)(subs:List String):=pY (.ret (.bool true)) nd [] bl [] subs same
theorem Hc:∀subs,(mq.map fun k=>jn bl [] (NR (Pf k.1) k.2 (Mem.of (br true subs)) 57))=mq.map fun _=>i4 57 subs:=fun subs=>by kernel_rfl
theorem Ha:∀subs,((mq.take 5).map fun k=>O3.map fun t=>jn bl [] (WM (LJ k.1 t false) k.2 (Mem.of (br true subs)) 57))=(mq.take 5).map fun _=>O3.map fun _=>i4 57 subs:=fun subs=>by kernel_rfl
theorem Hb:∀subs,(mq.map fun k=>O3.map fun t=>jn bl [] (rdC (LJ k.1 t true) k.2 (Mem.of (br true subs)) 59))=mq.map fun _=>O3.map fun _=>i4 59 subs:=fun subs=>by kernel_rfl
noncomputable def outF(r:R AF):Option (AF×Nat×Fd):=Option.map (fun z=>(z.1,z.2.nd,fdOf bl z.2)) r
theorem C2:(mq.map fun k=>outF (NR (Pf k.1) k.2 (Mem.of (br false zW.l)) 57))=mq.map fun _=>some (.ret (.bool true),57,gO [] bl false zW.l (same.map some)):=by kernel_rfl
end
section
open PySem PySem.W PySem.Calls PyProof.Rows PyProof.V PySem.Spec Builtin Builtin.Str
section
theorem acf(hy:y.length<=1000000)(h:∀x t' k,Q (.str x t') {s with toks:=k}):wpAny (model prog w) A (binaryOp .Mod (.str (S "taskid '%s' has no computed value!") t) (.str y u)) Q E s:=by
 have h':∀t' k,Q (.str ((fun y=>Str.ofString "taskid '" ++ y++Str.ofString "' has no computed value!") y) t') {s with toks:=k}:=fun _ _=>h _ _ _
 refine' KPc.mod_str (X:=Str.ofString "taskid '%s' has no computed value!") (T:=fun y=>Str.ofString "taskid '" ++ y++Str.ofString "' has no computed value!") ?kpcF hy ?kpcm h'
 case kpcF=>kpc_eq
 case kpcm=>k_dflt kpc_run_s
theorem D1(ht:IsTup s.heap b UI)(hX:X=X')
  (hm:Meets («str.__mod__» ⟨[.str X' t, .ref b],[]⟩) (fun _ R s=>IsTup s.heap b UI/\∀t' k,R (.ok (.ret (.str T t'))) {s with toks:=k}))
  (h:∀t' k,Q (.str T t') {s with toks:=k}):wpAny (model prog w) A (binaryOp .Mod (.str X t) (.ref b)) Q E s:=by
 subst hX
 have hT:s.TypeIs (.ref b) "tuple" :=by
  refine eN ht fun o ho hc _=>?_;clear ht
  exact ⟨o,ho,hc⟩
 exact KPt.bin_left (T:= "str") (U:= "tuple") (op:= .Mod) (by decide) (typeIs_str s X t) hT F.fills_str_mod KPt.fills_tuple F.slot_str_mod
  (call_meets F.slot_str_mod (typeIs_str s X t) F.entry_str_mod (F.args_str_mod_2 _ _) hm ⟨ht,fun t' k=>⟨(fun e=>nomatch e),h t' k⟩⟩)
set_option maxHeartbeats 8000000 in
theorem ace(ht:IsTup s.heap b #[.str y u, .str z u'])(hy:y.length<=1000000)(hz:z.length<=1000000)(h:∀x t' k,Q (.str x t') {s with toks:=k}):wpAny (model prog w) A (binaryOp .Mod (.str (S "Invalid arg name. Task '%s' has no value for '%s'.") t) (.ref b)) Q E s:=by
 refine' D1 (X:=Str.ofString "Invalid arg name. Task '%s' has no value for '%s'.") (T:=Str.ofString "Invalid arg name. Task '" ++ y++Str.ofString "' has no value for '" ++ z++Str.ofString "'.") ht ?kptF ?kptm fun t' k=>h _ t' k
 case kptF=>kpt_eq
 case kptm=>kpt_run
end
end
section
open PySem PySem.W PySem.Calls PyProof.Rows PyProof.V PySem.Spec
section
variable {T:At}
theorem HG(ca:dX G)(hb:bh e=true)(Ew:apos.endLine=pos.line)(hlen:as.length<=20)
  (hf:SE G n b f e) (hS:Gk G n b fs as) (hs:aZ as=true) (hk:keepIn G.K (.ref g')=true) (ok:T.Ok G n b W) (R:T.Rep G s.heap m W σ) (e1:f T.cx σ=some (x,aE)) (e0:xW G.P aE.mem (code name) x=some (.fn g')) (e3:fs T.cx aE=some (vs,aY))
  (P:∀W' h' tk us,W.le W'->T.Rep G h' m W' aY->bE W' (x::vs) us->wpAny (model G.prog G.w) T.A (call (.ref g') us []) Q E {s with heap:=h',toks:=tk}):wpAny (model G.prog G.w) T.A (eval (.Call (.Attribute e name apos) as [] pos) T.env) Q E s:=by
 have Vp:methodCallForm (as.length+0) (backTo pos (starEach as T.env)) (backToKw pos (keywordEach [] T.env))=true:=by
  unfold methodCallForm
  refine aa (show (backToKw pos (keywordEach [] T.env)).all (·.1.isSome)=true from rfl) (aa ((lx hs).2) ?_)
  simp only [Bool.true_and,decide_eq_true_eq]
  split<;>omega
 refine aa (arm_eval_Call ..) (aa (jQ hb ..) ?_)
 refine wpAny_bind (hf T W m σ s x _ _ E ok R e1 fun W₁ aq ar bp ag ak aK=>wpAny_bind (wpAny_standAt ?_))
 unfold methodCall
 refine aa (show as.length+([]:List Keyword).length=as.length+0 from rfl) (aa Vp ?_)
 unfold calleeOf
 simp only [if_true]
 refine wpAny_bind (wpAny_holding (Fx ca (s:={s with heap:=aq,toks:=ar}) (ok.mono ag) ak aK e0 fun r hr=>?_))
 have hp:∀o,methodCallPos true o T.env apos pos=pure pos:=fun o=>by
  unfold methodCallPos
  have:(apos.endLine==pos.line)=true:=by simpa using Ew
  refine aa this ?_;rfl
 refine aa (hp ..) ?_
 refine wpAny_bind (wpAny_pure ?_)
 have MC:r=(.ref g',[bp]):=hr
 subst MC
 refine d6 (s:={s with heap:=aq,toks:=ar}) hS hs nJ rfl (fun h X=>keeps_K hk h X) (ok.mono ag) ak e3 rfl fun ae aJ aG us kvs ax az aV eC=>?_
 cases eC.isNil
 exact P ae aJ aG _ (ag.trans ax) az ⟨aK.mono ax,aV⟩
theorem ur(ok:(bx T q D f g L').Ok G n b W)(F:Fr g L' s.heap m)
  (ex:nsIn G.K mainGlobals x=some (some (.ref C))) (hq:excIn G.K C [.type "Exception", .type "BaseException", .type "object"] "Exception.__new__" =true) (UP:isStar e=false) (hx:D.scope.names.lookup x=some .globalImplicit) (hk:D.scope.kind= .function) (hd:(x==("__debug__" :Str))=false)
  (h:wpAny (model G.prog G.w) (bx T q D f g L').A (eval e (bx T q D f g L').env) (fun v jS=>(∀b o,g.get? b=some o->jS.heap.get? b=some o)/\∀h' x,Heap.MadeExcOf jS.heap h' x (.ref C) [v]->E (.ref x) {jS with heap:=h'}) E s):
  wpAny (model G.prog G.w) (bx T q D f g L').A (exec (.Raise (some (.Call (.Name x np) [e] [] j5)) none pos) (bx T q D f g L').env) Q E s:=by
 have S:=ok.gL
 have he:starEach [e] (bx T q D f g L').env=(false,eval e (bx T q D f g L').env)::starEach [] (bx T q D f g L').env:=my UP [] _
 refine Raise_own (e₀:=e) (rest:=[]) F S.T.g (own_of_in S.X (topRead_of S.T) ex hq) PySem.F.excBase_Exception S.hh ?_ he rfl hk hx hd
 refine wpAny_items_cons (wpAny_mono h (fun v jS aJ=>?_) fun _ _ x=>x) he
 exact wpAny_items_nil ⟨zd rfl,aJ.1,aJ.2⟩
end
noncomputable def rNp(s:Stmt):Pos:=(dR (xE (dR (xS s) 0)) 0).pos
noncomputable def rCp(s:Stmt):Pos:=(dR (xS s) 0).pos
noncomputable def rRp(s:Stmt):Pos:=s.pos
noncomputable def ado(e:Expr):Pos:=e.pos
noncomputable def rzF(z:Stmt):Stmt:= .Raise (some (.Call (.Name (S "NoValue") (rNp z)) [.BinOp (D9 (kD z)) .Mod (wW (kD z)) (ado (kD z))] [] (rCp z))) none (rRp z)
theorem EE:AX=[.If Ve [rzF XJ] [] (posOf (bO AX 0)),gv2, .If gv3 [gv4,rzF XI] [] (posOf (bO AX 2)),bO AX 3]:=by kernel_rfl
theorem yE:pM.lookup (S "NoValue")=some .globalImplicit:=by kernel_rfl
theorem xi:(S "NoValue" == ("__debug__" :Str))=false:=by decide +kernel
theorem DW(P:Params):nsIn (H.K P) mainGlobals (S "NoValue")=some (some (.ref 121)):=by kernel_rfl
theorem DX(P:Params):excIn (H.K P) 121 [.type "Exception", .type "BaseException", .type "object"] "Exception.__new__" =true:=by kernel_rfl
theorem mS(h:Ii a x k=some r):a= .str x/\k=some r:=by
 induction a with
 |str s=>
  have h':(Bool.rec none k (sq s x):R AF)=some r:=h
  generalize q:sq s x=bZ;induction bZ with
  |true=>replace h':=q▸h';exact ⟨congrArg _ (code_inj (iL q)),h'⟩
  |false=>replace h':=q▸h';cases h'
 |_=>cases h
theorem By(h:VL mm a x y k=some r):∃j,a= .o j/\mm.get j=some (.tup [.str x, .str y])/\k=some r:=by
 induction a with
 |o j=>
  refine ab (show ob (mm.get j) (fun o=>VM o x y k)=some r from h) fun o e1 e2=>?_
  refine ⟨j,rfl,?_⟩
  induction o with
  |tup l=>
   induction l using iM with
   |nil=>exact zS e2
   |cons p l=>
   induction p with
   |str s=>
    induction l using iM with
    |nil=>exact zS e2
    |cons p l=>
    induction p with
    |str t=>
     induction l using iM with
     |cons _ _=>exact zS e2
     |nil=>
     have h':(Bool.rec none k (sq s x&&sq t y):R AF)=some r:=e2
     clear h e2
     generalize q:(sq s x&&sq t y)=ir at h';induction ir with
     |true=>
      replace q:=(Bool.and_eq_true ..)▸q
      exact ⟨by rw [e1,code_inj (iL q.1),code_inj (iL q.2)],h'⟩
     |false=>exact zS h'
    |_=>exact zS e2
   |_=>exact zS e2
  |_=>exact zS e2
 |_=>exact zS h
theorem Fp(h:cond b x none=some r):b=true/\x=some r:=by
 induction b with
 |true=>exact ⟨rfl,h⟩
 |false=>cases h
theorem Nd(h:cond b none x=some r):b=false/\x=some r:=by
 induction b with
 |true=>cases h
 |false=>exact ⟨rfl,h⟩
theorem oX(h:WT x k=some r):∃σ,x=some (.next,σ)/\k σ=some r:=by
 refine af h fun fl σ e1 e2=>?_;clear h
 induction fl with
 |next=>exact ⟨σ,e1,e2⟩
 |_=>cases e2
section
theorem ab3(ga:j6 G 5)(io:dn G)(nF:G.gl=aT)(hK:G.K=H.K P)(hS:D.scope=H.fS H.iR)(ok:(bx T q D f g L').Ok G 35 (.fn pM) W)(R:(bx T q D f g L').Rep G s.heap m W ⟨NV nm,mem,nd⟩)(ja:(S nm).length<=1000000)(run:NR G.P nm mem nd=some r)
  (k:∀W' h' tk aF x vs jM,W.le W'->(bx T q D f g L').Rep G h' m W' aF->mB G.P nm .none aF=some r->Heap.MadeExcOf h' jM x (.ref 121) vs->E (.ref x) {s with heap:=jM,toks:=tk}):wpAny (model G.prog G.w) (bx T q D f g L').A (execs AX (bx T q D f g L').env) Q E s:=by
 have oe:=xd ga.gk ga.ca io (du ga io 30)
 refine af run fun b WD e1 e2=>?_;clear run
 refine aM (Fp e2) fun b7 H9=>?_;clear e2;subst b7
 refine af H9 fun a Xk e3 e4=>?_;clear H9
 refine aM (mS e4) fun cw Xe=>?_;clear e4;subst cw
 refine af Xe fun a Oq e5 N9=>?_;clear Xe
 refine aM (mS N9) fun dC e6=>?_;clear N9;subst dC
 refine aa EE ?_
 refine wpAny_execs_cons (wpAny_If ((oe Ve (.fn pM)).2 _ W m _ s true WD _ _ ok R (by refine aa nF ?_;exact e1) fun W₁ aq ar bp ag ak aK=>?_))
 subst aK
 refine wpAny_execs_cons (ur (s:={s with heap:=aq,toks:=ar}) (ok.mono ag) ak.fr (by refine aa hK ?_;exact DW P) (by refine aa hK ?_;exact DX P) rfl (by refine aa hS ?_;exact yE) (by refine aa hS ?_;kernel_rfl) xi (wpAny_BinOp ?_))
 refine (oe _ (.fn pM)).1 _ W₁ m _ {s with heap:=aq,toks:=ar} _ Xk _ _ (ok.mono ag) ak (by refine aa nF ?_;exact e3) fun ae aJ aG ef ax az aV=>?_
 refine (oe _ (.fn pM)).1 _ ae m _ {s with heap:=aJ,toks:=aG} _ Oq _ _ ((ok.mono ag).mono ax) az (by refine aa nF ?_;exact e5) fun bu bq aQ kY bj cc eC=>?_
 refine VR.eB aV fun t2=>?_;clear aV
 refine VR.eB eC fun t3=>?_;clear eC
 exact acf ja fun x t' c=>⟨cc.fr.keep,fun h' x hx=>k bu bq c Oq x _ h' ((ag.trans ax).trans bj) cc e6 hx⟩
theorem ab2(ga:j6 G 5)(io:dn G)(nF:G.gl=aT)(hK:G.K=H.K P)(hS:D.scope=H.fS H.iR)(ok:(bx T q D f g L').Ok G 35 (.fn pM) W)(R:(bx T q D f g L').Rep G s.heap m W ⟨NV nm,mem,nd⟩)(ja:(S nm).length<=1000000)(run:WM G.P nm mem nd=some r)
  (k:∀W' m' h' tk aF x vs jM,W.le W'->(bx T q D f g L').Rep G h' m' W' aF->mB G.P nm .none aF=some r->Heap.MadeExcOf h' jM x (.ref 121) vs->E (.ref x) {s with heap:=jM,toks:=tk}):wpAny (model G.prog G.w) (bx T q D f g L').A (execs AX (bx T q D f g L').env) Q E s:=by
 have oe:=xd ga.gk ga.ca io (du ga io 30)
 refine af run fun b WD e1 e2=>?_;clear run
 refine aM (Nd e2) fun fG H9=>?_;clear e2;subst fG
 refine ay (oX H9) fun Xk e3 e4=>?_
 refine af e4 fun b Oq e5 e6=>?_;clear e4
 refine aM (Fp e6) fun gF N9=>?_;clear e6;subst gF
 refine ay (oX N9) fun σ4 e7 e8=>?_
 refine af e8 fun a σ5 e9 Gg=>?_;clear e8
 refine aM (mS Gg) fun gg Vx=>?_;clear Gg;subst gg
 refine af Vx fun a σ6 e11 e12=>?_;clear Vx
 refine eN (By e12) fun j gR e13 e14=>?_;clear e12;subst gR
 refine aa EE ?_
 refine wpAny_execs_cons (wpAny_If ((oe Ve (.fn pM)).2 _ W m _ s false WD _ _ ok R (by refine aa nF ?_;exact e1) fun W₁ aq ar bp ag ak aK=>?_))
 subst aK
 refine wpAny_execs_nil (wpAny_execs_cons ?_)
 have x2:=IZ ga.gk ga.ca oe gv2 (.fn pM)
 have x4:=IZ ga.gk ga.ca oe gv4 (.fn pM)
 unfold ya at x2 x4
 replace x2:=nF▸x2;replace x4:=nF▸x4
 refine x2 _ W₁ m WD {s with heap:=aq,toks:=ar} .next Xk _ _ (ok.mono ag) ak e3 fun ae m₂ aJ aG ef ax az aV=>?_
 subst aV
 have lB:=(ok.mono ag).mono ax
 refine wpAny_execs_cons (wpAny_If ((oe gv3 (.fn pM)).2 _ ae m₂ _ {s with heap:=aJ,toks:=aG} true Oq _ _ lB az (by refine aa nF ?_;exact e5) fun bu bq aQ kY bj cc eC=>?_))
 subst eC
 refine wpAny_execs_cons (x4 _ bu m₂ Oq {s with heap:=bq,toks:=aQ} .next σ4 _ _ (lB.mono bj) cc e7 fun ew gm cQ cz Gq js gA ek=>?_)
 subst ek
 have DQ:=(lB.mono bj).mono js
 refine wpAny_execs_cons (ur (s:={s with heap:=cQ,toks:=cz}) DQ gA.fr (by refine aa hK ?_;exact DW P) (by refine aa hK ?_;exact DX P) rfl (by refine aa hS ?_;exact yE) (by refine aa hS ?_;kernel_rfl) xi (wpAny_BinOp ?_))
 refine (oe _ (.fn pM)).1 _ ew gm _ {s with heap:=cQ,toks:=cz} _ σ5 _ _ DQ gA (by refine aa nF ?_;exact e9) fun kR iX gK afp I3 mh OZ=>?_
 refine (oe _ (.fn pM)).1 _ kR gm _ {s with heap:=iX,toks:=gK} _ σ6 _ _ (DQ.mono I3) mh (by refine aa nF ?_;exact e11) fun i5 qp oh afo D8 gJ OY=>?_
 refine VR.eB OZ fun t5=>?_;clear OZ
 refine VR.oM OY fun a ea=>?_;clear OY
 obtain ⟨a',l,Xd,el,vs,ob,k',rfl,hc,hd,hv⟩:=gJ.ob j _ e13
 replace Xd:=ea▸Xd
 have dq:=aH Xd;clear Xd;subst dq
 refine dM hv.Xr fun u1 u2 q p1 p2=>?_;clear hv;subst q
 refine aU p1 fun t1 q=>?_;clear p1;subst q
 refine aU p2 fun t2 q=>?_;clear p2;subst q
 exact ace (s:={s with heap:=qp,toks:=oh}) ⟨ob,(gJ.nw _ (cD el cg)).1,hc,k',hd⟩ ja (zd rfl) fun x t' c=>⟨gJ.fr.keep,fun h' x hx=>k i5 gm qp c σ6 x _ h' (((((ag.trans ax).trans bj).trans js).trans I3).trans D8) gJ e14 hx⟩
end
noncomputable def Eu:Stmt->Option ExceptHandler
 | .Try _ hs _ _ _=>one hs
 |_=>none
noncomputable def hNp:Pos:=match Eu (bO wm 0) with
 |some (.ExceptHandler (some (.Name _ p)) _ _ _)=>p
 |_=>default
noncomputable def abY:Pos:=match Eu (bO wm 0) with
 |some (.ExceptHandler _ _ _ p)=>p
 |_=>default
noncomputable def AY:Stmt:=match Eu (bO wm 0) with
 |some (.ExceptHandler _ _ b _)=>bO b 0
 |_=> .Pass default
noncomputable def Xx(s:Stmt):Pos:=s.pos
noncomputable def wb(s:Stmt):Pos:=(dR (xS s) 1).pos
noncomputable def Ir(s:Stmt):Pos:=s.pos
noncomputable def bX(s:Stmt):Expr:=dR (xS s) 0
noncomputable def kI(e:Expr):Pos:=e.pos
noncomputable def Mu(e:Expr):Nat:=xK e
noncomputable def bK(e:Expr):Expr:=dR (xE e) 0
noncomputable def bD(e:Expr):List Expr:=(xE e).tail
noncomputable def adp(e:Expr):Expr:=dR (xE e) 0
noncomputable def Nq(e:Expr):Pos:=e.pos
noncomputable def WW:Expr:=adp (bK (bX lU))
noncomputable def HF:List Expr:=bD (bX lU)
theorem Dr:wm= .Try [lU] [.ExceptHandler (some (.Name (S "NoValue") hNp)) none [AY] abY] [] [] (Xx (bO wm 0))::wm.drop 1:=by kernel_rfl
theorem H0:AY= .Assign [.Name (S "got") (wb AY)] (.Constant .none (Mu (bX AY)) (kI (bX AY))) (Ir AY):=by kernel_rfl
theorem HZ:lU= .Assign [.Name (S "got") (wb lU)] (.Call (.Attribute WW (S "get_value") (Nq (bK (bX lU)))) HF [] (kI (bX lU))) (Ir lU):=by kernel_rfl
theorem yG:bh WW=true/\(Nq (bK (bX lU))).endLine=(kI (bX lU)).line/\HF.length<=20/\aZ HF=true:=by
 refine ⟨?_,?_,zd ?_,?_⟩<;>kernel_rfl
theorem Uw(P:bA)(nm:String)(mem:Mem)(nd:Nat):Vr sj P WW BM ⟨lR nm,mem,nd⟩=some (.o 5,⟨lR nm,mem,nd⟩):=by kernel_rfl
theorem Mb(P:bA)(nm:String)(mem:Mem)(nd:Nat):(den P (cH P 30) (gz aT (.fn sj) HF)).sX BM ⟨lR nm,mem,nd⟩=some ([sA nm,sA "n"],⟨lR nm,mem,nd⟩):=by kernel_rfl
theorem Uq:sj.lookup (S "NoValue")=some .globalImplicit:=by kernel_rfl
theorem MM:sj.lookup (S "got")=some .local:=by kernel_rfl
theorem LV(P:Params):ktsIn (H.K P) 121 "BaseException" =true:=by kernel_rfl
theorem Vm:(390, "Dependency.get_value",H.iR,[])∈ET:=kW (i:=17) rfl
theorem ED(nm:String):kl (rl (390, "Dependency.get_value",H.iR,[])).params (rl (390, "Dependency.get_value",H.iR,[])).ki [.o 5,sA nm,sA "n"] []=some (NV nm):=by kernel_rfl
section
noncomputable def IB(G:Gx)(nm:String)(mem:Mem)(nd:Nat)(r:AF×St):Prop:=∀(T:At) (W:Wd) (m:Str->Option Value) (s:Shared) (q:Str) (D:Ol) (f:Addr) (g:Heap) (L':Addr) (Q:Flow->Shared->Prop) (E:Value->Shared->Prop),D.scope=H.fS H.iR->(bx T q D f g L').Ok G 35 (.fn pM) W->(bx T q D f g L').Rep G s.heap m W ⟨NV nm,mem,nd⟩->
 (∀W' m' h' tk aF x vs jM,W.le W'->(bx T q D f g L').Rep G h' m' W' aF->mB G.P nm .none aF=some r->Heap.MadeExcOf h' jM x (.ref 121) vs->E (.ref x) {s with heap:=jM,toks:=tk})->wpAny (model G.prog G.w) (bx T q D f g L').A (execs AX (bx T q D f g L').env) Q E s
theorem Le(ga:j6 G 5)(io:dn G)(nF:G.gl=aT)(hK:G.K=H.K P)(hc:xW G.P mem (code (S "get_value")) (.o 5)=some (.fn 390)) (hS:D.scope=H.fS H.qh) (gH:T.Ok G 37 (.fn aA) W) (hb:T.base=T.h₀) (O:∃fi,nH G f fi D/\fi.cells=[]/\q=fi.qual) (ok:(bx T q D f g L').Ok G 36 (.fn sj) W) (R:(bx T q D f g L').Rep G s.heap m W ⟨lR nm,mem,nd⟩) (Dc:KtsDicts ((T.aN::T.outer).filterMap (·.frame)) g)
  (hE:∀x,PassesOwnAt (model G.prog G.w) ((bx T q D f g L').A.mark (some (.ref x))) (bx T q D f g L').A (bx T q D f g L').env E) (gv:IB G nm mem nd r)
  (post:∀g' W' m' h' tk aF,KtsTurn ((T.aN::T.outer).filterMap (·.frame)) g g'->W.le W'->(bx T q D f g' L').Ok G 36 (.fn sj) W'->(bx T q D f g' L').Rep G h' m' W' ⟨lR nm ++ [f_ "got" .none],aF.mem,aF.nd⟩->mB G.P nm .none aF=some r->wpAny (model G.prog G.w) (bx T q D f g L').A (execs (wm.drop 1) (bx T q D f g L').env) Q E {s with heap:=h',toks:=tk}):
  wpAny (model G.prog G.w) (bx T q D f g L').A (execs wm (bx T q D f g L').env) Q E s:=by
 have oe:=xd ga.gk ga.ca io (du ga io 30)
 have agT:=nF
 refine eN (vA hK Vm) fun adP Wr Vb Jf=>?_
 refine eN O fun fi adx MI b7=>?_;clear O;subst b7
 have Wm:=ok.gL
 have DU:(bx T fi.qual D f g L').Ok G 35 (.fn sj) W:=⟨Wm.of (Nat.le_succ 35),ok.env⟩
 refine aa Dr ?_
 refine wpAny_execs_cons (wpAny_Try_except (wpAny_execs_cons ?_))
 have hk:D.scope.kind= .function:=by refine aa hS ?_;kernel_rfl
 refine aa HZ ?_
 refine wpAny_Assign_Name (wpAny_mono (HG (Q:=fun _ _=>False) (n:=35) (apos:=Nq (bK (bX lU))) (pos:=kI (bX lU)) ga.ca yG.1 yG.2.1 yG.2.2.1 (oe WW (.fn sj)).1 (kA fun e _=>oe e _).1 yG.2.2.2 (nU Wr) DU R (by refine aa nF ?_;exact Uw _ nm mem nd) hc (by refine aa nF ?_;exact Mb _ nm mem nd) fun W₁ aq ar us ag ak hu=>?_) (fun _ _ h=>h.elim) fun _ _ h=>h) rfl
 have gM:=ok.mono ag
 refine xU (s:={s with heap:=aq,toks:=ar}) Wr (by kernel_rfl) gM ak hu (ED nm) fun ahe ahE m₂ aJ aG adw adC FG lB az k=>?_
 have MJ:adP.scope.names=pM:=by refine aa Jf ?_;rfl
 replace lB:=MJ▸lB
 refine aa Vb ?_
 refine gv _ W₁ m₂ {s with heap:=aJ,toks:=aG} _ _ _ _ _ _ _ Jf lB az fun bu gT bq aQ fV x vs cQ bj cc rest hx=>?_
 refine k x 121 vs bu gT bq aQ fV cQ cc hx fun iX t RS U=>?_
 refine caught_SO0 (s':={s with heap:=iX,toks:=aQ}) (KF:=G.K) RS FG Wm.B U (by show G.K.In T.base;refine aa hb ?_;exact gH.gL.X) (by show Top _ _ _ _ _ T.base;refine aa hb ?_;exact gH.gL.T) Dc KtsTurn.refl (by refine aa hK ?_;exact DW P) (by refine aa hK ?_;exact LV P) (fun qp g' WV Tt F' _ _ N' B' X' P' D'=>?_) hk (by show D.scope.names.lookup _=_;refine aa hS ?_;exact Uq) xi (hE x)
 refine aa H0 ?_
 refine wpAny_execs_cons (wpAny_Assign_Name (wpAny_Constant_none ?_) rfl)
 refine stN (s:={s with heap:=qp,toks:=aQ}) F' N' (fun pJ adA ady=>?_) hk (by show D.scope.names.lookup _=_;refine aa hS ?_;exact MM)
 refine wpAny_execs_nil ?_
 have le:=ag.trans bj
 refine post g' bu _ pJ (aQ+1) fV Tt le ?_ ⟨adA,ady,cc.nd,cc.mem,cc.n1,cc.n2,cc.n3,cc.ob,fun y v e=>?_,cc.dat⟩ rest
 ·have hN:D.scope.names=sj:=by refine aa hS ?_;rfl
  have:=tp (T:=T) (g:=g') (L':=L') adx MI (gH.mono le) B' X' P'
  replace this:=hN▸this
  exact this
 ·have e:ah (code y) (lR nm ++ [(code (S "got"),AV.none)])=some v:=e
  replace e:=gb▸e
  by_cases hy:y=S "got"
  ·subst hy
   have z:ah (code (S "got")) (lR nm)=none:=by kernel_rfl
   replace e:=z▸e;replace e:=(if_pos rfl)▸e
   have cw:=aH e;clear e;clear e;subst cw
   exact ⟨.none,if_pos rfl,rfl⟩
  ·have z:¬ code (S "got")=code y:=fun h=>hy (code_inj h).symm
   replace e:=(if_neg z)▸e;replace e:=Option.or_none▸e
   refine ay (R.loc y v e) fun u e1 e2=>?_
   exact ⟨u,(if_neg hy).trans e1,e2.mono le⟩
end
theorem UG(h:(k,nm)∈mq):k<7:=by
 have:(mq.all fun p=>Nat.blt p.1 7)=true:=by kernel_rfl
 exact zd (pk this _ h)
theorem Ms(h:(k,nm)∈mq):(S nm).length<=1000000:=by
 have:(mq.all fun p=>Nat.ble (S p.2).length 1000000)=true:=by kernel_rfl
 exact zd (pk this _ h)
theorem LC(r:Rec)(J:Nat->Int):∀{k:Nat},k<7->aW r J k=(r.res k).eA:=fun hk=>Mh hk rfl rfl rfl rfl rfl rfl rfl
theorem DA(r:Rec)(J:Nat->Int):∀{k:Nat},k<7->aW r J (7+k)=ku (r.val k):=fun hk=>Mh hk rfl rfl rfl rfl rfl rfl rfl
theorem DB(r:Rec)(J:Nat->Int)(hj:j<4):∀{k:Nat},k<7->aW r J (14+j+4*k)=r.l5 k j:=fun {k} hk=>lt4 hj (Mh hk rfl rfl rfl rfl rfl rfl rfl) (Mh hk rfl rfl rfl rfl rfl rfl rfl) (Mh hk rfl rfl rfl rfl rfl rfl rfl) (Mh hk rfl rfl rfl rfl rfl rfl rfl)
noncomputable def gQ:Res->Tg×Tg
 | .none=>(.none, .none)
 | .t _=>(.tuple, .str true)
 | .d _=>(.dict true, .dict true)
 | .m .e=>(.str false, .str false)
 | .m _=>(.str true, .str true)
theorem K9(h:a≠ .none):gQ a∈O3:=by
 induction a with
 |none=>exact absurd rfl h
 |t x=>exact kW (i:=0) rfl
 |d x=>exact kW (i:=1) rfl
 |m x=>induction x<;>first | exact kW (i:=3) rfl | exact kW (i:=2) rfl
theorem Gy(x:Tx):true=full x.s'.cps.toList/\x.s'.cps.toList.length<=900:=by induction x<;>decide +kernel
theorem Dm(a:Res):eQ (gQ a).1 a.eA:=by
 induction a with
 |none=>rfl
 |t x=>exact ⟨_,_,rfl⟩
 |d x=>exact ⟨_,rfl,rfl⟩
 |m x=>induction x<;>exact ⟨_,rfl,by decide +kernel⟩
theorem Dl(a:Res):eQ (gQ a).2 a.st:=by
 induction a with
 |none=>rfl
 |t x=>exact ⟨_,rfl,Gy x⟩
 |d x=>exact ⟨_,rfl,rfl⟩
 |m x=>induction x<;>exact ⟨_,rfl,by decide +kernel⟩
theorem Res.H6(a:Res):a.eq a=true:=by induction a<;>first | rfl | exact beq_self_eq_true _
theorem O4(h:isTup (gQ a).1=false):jb a.st a.eA true:=by
 have:=gq a a
 replace this:=(Res.H6 ..)▸this
 induction a with
 |t x=>exact zF h
 |_=>exact this
theorem ioE(h1:G.P.ops=[])(h2:G.P.eu=[]):dn G:=by
 have no:∀i,¬ NC G.P i:=fun i h=>by
  rcases h with ⟨_,_,_,_,e⟩ | ⟨_,_,_,_,e⟩
  ·replace e:=h1▸e;cases e
  ·replace e:=h2▸e;cases e
 exact ⟨fun op i k nd r e=>(by replace e:=h1▸e;cases e),fun op i k nd r e=>(by replace e:=h2▸e;cases e),fun i x _ h=>(no i h).elim,fun i x _ h=>(no i h).elim,fun i x _ h=>(no i h).elim,fun i x _ h=>(no i h).elim⟩
theorem Hp(l:List (Nat×Tg))(h:P.tags=bB 70 l)(hs:P.spec=spT l):P.spec=WI (bN P):=by
 refine aa hs ?_;unfold spT bN;exact aa h rfl
section
theorem Inv.read(inv:Inv G T n sc r c m h loc W){ds:List WA}(hJ:J 56=r.q)(cls:P.cls=aR.cls)(ht:P.tags=bB 70 l)(hl:∀p∈l,eQ p.2 (aW r J p.1))(he:∀p∈P.eqs,jb (aW r J p.1) (aW r J p.2.1) p.2.2)(hc:P.jO=[])(hs:P.ds=[])(hg:P.pT=[])
  (hd:∀k d,ds[k]?=some d->p4 (aW r J) (57+k) d) (U6:∀p∈P.dg,∃x,p.2.1=code x/\((∃k,p.2.2=some (57+k)/\ds[k]?=some (.dict p.1 x))\/(p.2.2=none/\∃l,aW r J p.1= .dict l/\fI x l=none))):
  ∃e:List Value,e.length=ds.length/\(∀k v,e[k]?=some v->Is G.prog G.w W.fx (.int (J (57+k))) (.v v))/\T.Rep (G.at P (ec J)) h m (W.ext e) ⟨[],Mem.of (br c r.x.l),57+e.length⟩:=by
 have n3:W.gam.length=57:=inv.rep.n3
 have HT:∀i v,W.gam[i]?=some v->Is G.prog G.w W.fx (aW r J i) (.v v):=fun i v e=>by
  have hi:i<57:=n3▸(jN e).1
  have:=inv.ie i v e
  unfold aW at this ⊢
  by_cases q:i<56
  ·rw [if_pos q] at this ⊢;exact this
  ·rw [if_neg q] at this ⊢
   refine aa (show i=56 by omega) (aa hJ ?_)
   replace this:=(show i=56 by omega)▸this
   exact this
 refine eN (exts (prog:=G.prog) (w:=G.w) (fx:=W.fx) (pv:=aW r J) ds W.gam HT (by refine aa n3 ?_;exact hd)) fun e el ie hde=>?_
 refine ⟨e,el,fun k v x=>?_,?_⟩
 ·have:=ie (57+k) v (by refine aa (List.getElem?_append_right (by omega) ..) (aa (n3 ..) (aa (Nat.add_sub_cancel_left ..) ?_));exact x)
  unfold aW at this
  rw [if_neg (by omega)] at this
  exact this
 have R:=inv.rep.tab (P':=P) (I':=ec J) (g:=e) (loc:=[]) cls (fun _ _ q=>zS q) (xR (pv:=aW r J) ie (lM ht hl) he (by refine aa (show (G.at P (ec J)).P.jO=[] from hc) ?_;exact all_nil) (fun i x q=>?_) (fun p hp=>?_) (by refine aa (show (G.at P (ec J)).P.ds=[] from hs) ?_;exact all_nil) (by refine aa (show (G.at P (ec J)).P.pT=[] from hg) ?_;exact all_nil))
 ·replace R:=(gx ..)▸R;exact R
 ·refine aM (eJ q) fun q1 q2=>?_
  unfold aW
  exact aa (if_neg (by omega)) (aa q2 rfl)
 ·refine ay (U6 p hp) fun x h1 h2=>?_
  refine ⟨x,h1,h2.imp_left fun ⟨k,h3,h4⟩=>⟨57+k,h3,?_⟩⟩
  have:=hde k _ h4 []
  replace this:=(List.append_nil ..)▸this;replace this:=(n3 ..)▸this
  exact this
end
theorem Kd{r:Rec}(ok:r.Ok)(h:r.res k≠ .none)(hv:r.val k=some v):∃l,r.vals k= .dict (.ent (S "n") (.int v) l):=by
 by_cases h5:k=5
 ·subst h5
  generalize hk:r.kU=bZ;induction bZ with
  |none=>exact absurd (ok.u.mpr hk) h
  |some p=>exact ⟨.ent (S "_result:M") p.1.st (.ent (S "_result:G") p.2.st .nil),by show Gu ((r.val 5).getD 0) r.kU=_;refine aa hv (aa hk ?_);rfl⟩
 by_cases h6:k=6
 ·subst h6
  generalize hk:r.kV=ir;induction ir with
  |none=>exact absurd (ok.v.mpr hk) h
  |some p=>exact ⟨.ent (S "_result:U") p.1.st (.ent (S "_result:M") p.2.st .nil),by show Gs ((r.val 6).getD 0) r.kV=_;refine aa hv (aa hk ?_);rfl⟩
 refine ⟨.nil,?_⟩
 have:r.vals k=ku (r.val k):=by
  unfold Rec.vals
  split
  ·exact absurd rfl h5
  ·exact absurd rfl h6
  ·rfl
 refine aa this (aa hv ?_);rfl
theorem Ke{r:Rec}(ok:r.Ok)(h7:k<7)(h:r.res k≠ .none)(hv:r.val k=none):k<5/\r.vals k= .dict .nil:=by
 have h5:k≠5:=fun e=>by
  subst e
  generalize hk:r.kU=ny;induction ny with
  |none=>exact h (ok.u.mpr hk)
  |some p=>refine aU (ok.vu p hk) fun n e=>?_;replace e:=hv▸e;cases e
 have h6:k≠6:=fun e=>by
  subst e
  generalize hk:r.kV=rS;induction rS with
  |none=>exact h (ok.v.mpr hk)
  |some p=>refine aU (ok.vv p hk) fun n e=>?_;replace e:=hv▸e;cases e
 refine ⟨by omega,?_⟩
 have:r.vals k=ku (r.val k):=by
  unfold Rec.vals
  split
  ·exact absurd rfl h5
  ·exact absurd rfl h6
  ·rfl
 refine aa this (aa hv ?_);rfl
theorem ik{r:Rec}(h:r.res k= .none):r.l5 k j= .none:=by unfold Rec.l5;exact aa h rfl
theorem Ml(v:Int)(l:PV):fI (S "n") (.ent (S "n") (.int v) l)=some (.int v):=by unfold fI;exact aa (if_pos rfl) rfl
theorem Jw(hi:i<N)(h1:aW r J i= .dict (.ent (S "n") (.int v) l)) (h2:aW r J N= .int v):p4 (aW r J) N (.dict i (S "n")):=⟨hi,_,h1,by refine aa h2 ?_;exact Ml v l⟩
theorem Kf{P:Nat->α->Prop}(h0:P 0 a)(h1:P 1 b):∀k d,[a,b][k]?=some d->P k d
 | 0,_,e=>by have dC:=aH e;clear e;subst dC;exact h0
 | 1,_,e=>by have dk:=aH e;clear e;subst dk;exact h1
inductive zR(P:bA)(nm:String)(subs:List String)(c:Bool):Nat->Prop
 |a {σ:St}:NR P nm (Mem.of (br c subs)) 57=some (.ret (.bool true),σ)->nI c σ subs->zR P nm subs c 0
 |v {σ:St}:WM P nm (Mem.of (br c subs)) 57=some (.ret (.bool true),σ)->nI c σ subs->zR P nm subs c 0
 |c {σ:St}:rdC P nm (Mem.of (br c subs)) 59=some (.ret (.bool true),σ)->nI c σ subs->zR P nm subs c 2
theorem ij(h:jn bl [] x=i4 nd subs):∃σ,x=some (.ret (.bool true),σ)/\nI true σ subs:=by
 refine qC (ia h) fun σ e1 e2 e3 e4 e5=>?_
 exact ⟨σ,e1,fun _=>e3,e5⟩
theorem vM(h:outF x=some (.ret (.bool true),57,gO [] bl false subs (same.map some))):∃σ,x=some (.ret (.bool true),σ)/\nI false σ subs:=by
 induction x with
 |none=>exact zS h
 |some z=>
  obtain ⟨fl,σ⟩:=z
  have h:=aH h
  replace h:=(Prod.mk.injEq ..)▸h;replace h:=(Prod.mk.injEq ..)▸h
  refine fK h fun h1 h2 h3=>?_;clear h
  have h1:fl= .ret (.bool true):=h1
  subst h1
  exact ⟨σ,rfl,fun e=>(zT e),h3⟩
theorem yY:∀{e:List Value},(∀v∈e,∃i t,v= .int i t)->∃qs:List (Int×Tok),qs.map cP=e
 | [],_=>⟨[],rfl⟩
 |v::e,h=>by
  refine BK (h v cg) fun i t b7=>?_;subst b7
  refine aU (yY fun x hx=>h x (fw _ hx)) fun qs cw=>?_;clear h;subst cw
  exact ⟨(i,t)::qs,rfl⟩
section
theorem Inv.reads{c:Bool}(inv:Inv G T n sc r c m h loc W)(hc:c=false->FU r){nm:String}(hk:(k,nm)∈mq):∃(P:bA) (J:Nat->Int) (l:List (Nat×Tg)) (qs:List (Int×Tok)),P.fns=iH/\P.cls=aR.cls/\P.iW=mf/\P.tags=bB 70 l/\P.spec=spT l/\P.ops=[]/\P.eu=[]/\J 56=r.q/\zR P nm r.x.l c qs.length/\T.Rep (G.at P (ec J)) h m (W.ext (qs.map cP)) ⟨[],Mem.of (br c r.x.l),57+qs.length⟩:=by
 have h7:=UG hk
 have ok:=inv.ok
 have pR:=fun J=>LC r J h7
 have pV:=fun J=>DA r J h7
 have pB:=fun J j hj=>DB r J (j:=j) hj h7
 by_cases h0:r.res k= .none
 ·have hv:r.val k=none:=ok.vn k h0
  obtain ⟨e,el,_,R⟩:=inv.read (P:=Pf k) (J:=Jl [r.q]) (l:=GB k) (ds:=[]) rfl rfl rfl (all_cons (show aW r _ k=_ by refine aa (pR ..) (aa (h0 ..) ?_);rfl) (all_cons (show aW r _ (14+0+4*k)=_ by exact aa (pB _ 0 (zd rfl)) (aa (ik h0) rfl)) (all_cons (show aW r _ (14+2+4*k)=_ by exact aa (pB _ 2 (zd rfl)) (aa (ik h0) rfl)) (all_cons ⟨.nil,by refine aa (pV ..) (aa (hv ..) ?_);rfl,rfl⟩ all_nil))))
   (all_cons (show jb (aW r _ (14+0+4*k)) (aW r _ k) true by refine aa (pB _ 0 (zd rfl) ..) (aa (ik h0 ..) (aa (pR ..) (aa (h0 ..) ?_)));exact ⟨rfl,Nat.zero_le _,rfl⟩) all_nil) rfl rfl rfl (fun k d e=>zS e) (all_cons ⟨S "n",rfl, .inr ⟨rfl, .nil,by refine aa (pV ..) (aa (hv ..) ?_);rfl,rfl⟩⟩ all_nil)
  induction e using iM with
  |cons _ _=>exact nomatch el
  |nil=>
   have run:∃σ,NR (Pf k) nm (Mem.of (br c r.x.l)) 57=some (.ret (.bool true),σ)/\nI c σ r.x.l:=by
    induction c with
    |true=>exact ij (aw (Hc r.x.l) (k,nm) hk)
    |false=>refine aa ((hc rfl).x) ?_;exact vM (aw C2 (k,nm) hk)
   refine ay run fun σ e1 e2=>?_;clear run
   exact ⟨Pf k,_,GB k,[],rfl,rfl,rfl,rfl,rfl,rfl,rfl,rfl, .a e1 e2,R⟩
 obtain rfl:c=true:=by
  induction c with
  |true=>rfl
  |false=>exact absurd ((hc rfl).res k) h0
 have m0:=K9 h0
 have bS:∀J,aW r J (14+0+4*k)=(r.res k).st:=fun J=>(pB J 0 (zd rfl)).trans (qz r k)
 have b1:∀J,aW r J (14+1+4*k)=r.vals k:=fun J=>(pB J 1 (zd rfl)).trans (cR (j:=0) h0)
 have b2:∀J,aW r J (14+2+4*k)= .str (S "MD5Checker"):=fun J=>(pB J 2 (zd rfl)).trans (cR (j:=1) h0)
 have eq1:∀J,∀p∈(bif isTup (gQ (r.res k)).1 then [] else [(14+4*k,k,true)]),jb (aW r J p.1) (aW r J p.2.1) p.2.2:=fun J=>by
  generalize q:isTup (gQ (r.res k)).1=tR;induction tR with
  |true=>exact all_nil
  |false=>exact all_cons (show jb (aW r J (14+0+4*k)) (aW r J k) true by refine aa (bS ..) (aa (pR ..) ?_);exact O4 q) all_nil
 generalize hv:r.val k=Gn;induction Gn with
 |none=>
  refine aM (Ke ok h7 h0 hv) fun h5 hz=>?_
  obtain ⟨e,el,_,R⟩:=inv.read (P:=LJ k (gQ (r.res k)) false) (J:=Jl [r.q]) (l:=z0 k (gQ (r.res k)) false) (ds:=[]) rfl rfl rfl
   (all_cons (show eQ _ (aW r _ k) by refine aa (pR ..) ?_;exact Dm _) (all_cons (show eQ _ (aW r _ (14+0+4*k)) by refine aa (bS ..) ?_;exact Dl _) (all_cons (show eQ _ (aW r _ (14+1+4*k)) by refine aa (b1 ..) (aa (hz ..) ?_);exact ⟨_,rfl,rfl⟩) (all_cons (show eQ _ (aW r _ (14+2+4*k)) by refine aa (b2 ..) ?_;exact ⟨_,rfl,jq⟩) (all_cons (show eQ _ (aW r _ (7+k)) by refine aa (pV ..) (aa (hv ..) ?_);exact ⟨_,rfl,rfl⟩) all_nil)))))
   (fun p hp=>eq1 _ p (by replace hp:=(show (LJ k (gQ (r.res k)) false).eqs=_ ++ [] from rfl)▸hp;replace hp:=(List.append_nil ..)▸hp;exact hp)) rfl rfl rfl (fun k d e=>zS e) (all_cons ⟨S "n",rfl, .inr ⟨rfl, .nil,by refine aa (pV ..) (aa (hv ..) ?_);rfl,rfl⟩⟩ all_nil)
  induction e using iM with
  |cons _ _=>exact nomatch el
  |nil=>
   have hk5:(k,nm)∈mq.take 5:=by
    have:(mq.all fun p=>(Nat.ble 5 p.1)||decide (p∈mq.take 5))=true:=by decide +kernel
    have:=pk this _ hk
    rcases Bool.or_eq_true_iff.mp this with z | z
    ·have z:5<=k:=zd z
     omega
    ·exact of_decide_eq_true z
   refine ay (ij (aw (aw (Ha r.x.l) (k,nm) hk5) _ m0)) fun σ e1 e2=>?_
   exact ⟨LJ k (gQ (r.res k)) false,Jl [r.q],z0 k (gQ (r.res k)) false,[],rfl,rfl,rfl,rfl,rfl,rfl,rfl,rfl, .v e1 e2,R⟩
 |some v=>
  refine aU (Kd ok h0 hv) fun l hz=>?_
  have p57:aW r (Jl [r.q,v,v]) 57= .int v:=rfl
  have Ph:aW r (Jl [r.q,v,v]) 58= .int v:=rfl
  have eq2:∀p∈[(58,57,true)],jb (aW r (Jl [r.q,v,v]) p.1) (aW r (Jl [r.q,v,v]) p.2.1) p.2.2:=all_cons (show jb (aW r (Jl [r.q,v,v]) 58) (aW r (Jl [r.q,v,v]) 57) true by refine aa p57 (aa Ph ?_);exact ⟨rfl,Nat.zero_le _,beq_self_eq_true v⟩) all_nil
  obtain ⟨e,el,ie,R⟩:=inv.read (P:=LJ k (gQ (r.res k)) true) (J:=Jl [r.q,v,v]) (l:=z0 k (gQ (r.res k)) true) (ds:=[.dict (7+k) (S "n"), .dict (15+4*k) (S "n")]) rfl rfl rfl
   (all_cons (show eQ _ (aW r _ k) by refine aa (pR ..) ?_;exact Dm _) (all_cons (show eQ _ (aW r _ (14+0+4*k)) by refine aa (bS ..) ?_;exact Dl _) (all_cons (show eQ _ (aW r _ (14+1+4*k)) by refine aa (b1 ..) (aa (hz ..) ?_);exact ⟨_,rfl,rfl⟩) (all_cons (show eQ _ (aW r _ (14+2+4*k)) by refine aa (b2 ..) ?_;exact ⟨_,rfl,jq⟩) (all_cons (show eQ _ (aW r _ (7+k)) by refine aa (pV ..) (aa (hv ..) ?_);exact ⟨_,rfl,rfl⟩) all_nil)))))
   (fun p hp=>(List.mem_append.mp hp).elim (eq1 _ p) (eq2 p)) rfl rfl rfl
   (Kf (Jw (by omega) ((pV _).trans (by refine aa hv ?_;rfl)) p57) (Jw (by omega) ((b1 _).trans hz) Ph))
   (all_cons ⟨S "n",rfl, .inl ⟨0,rfl,rfl⟩⟩ (all_cons ⟨S "n",rfl, .inl ⟨1,rfl,rfl⟩⟩ all_nil))
  obtain ⟨qs,rfl⟩:=yY (e:=e) fun x hx=>by
   refine aU (List.getElem?_of_mem hx) fun i hi=>?_
   have:=ie i x hi
   cases this with
   |int q=>exact ⟨_,q⟩
  replace el:=(List.length_map ..)▸el;replace R:=(List.length_map ..)▸R
  refine ⟨LJ k (gQ (r.res k)) true,Jl [r.q,v,v],z0 k (gQ (r.res k)) true,qs,rfl,rfl,rfl,rfl,rfl,rfl,rfl,rfl,?_,R⟩
  refine aa el ?_
  refine ay (ij (aw (aw (Hb r.x.l) (k,nm) hk) _ m0)) fun σ e1 e2=>?_
  exact .c e1 e2
end
theorem EO:(691, "_law_reads",H.qh,[])∈ET:=kW (i:=45) rfl
theorem Dq(nm:String):kl (rl (691, "_law_reads",H.qh,[])).params (rl (691, "_law_reads",H.qh,[])).ki [.o 5, .o 7, .o 8,sA nm] []=some (lR nm):=by kernel_rfl
theorem ML(P:bA)(h:P.cls=di)(subs:List String)(c:Bool):xW P (Mem.of (br c subs)) (code (S "get_value")) (.o 5)=some (.fn 390):=by
 have:∀c subs b,xW {aR with cls:=c} (Mem.of (br b subs)) (code (S "get_value")) (.o 5)=ob (ah 427 c) fun ci=>ob (dH (code (S "get_value")) ci.BZ) fun a=>match a with
  | .fn f=>some (.fn f)
  |_=>none:=fun c subs b=>by kernel_rfl
 refine Eq.trans (b:=xW {aR with cls:=P.cls} (Mem.of (br c subs)) (code (S "get_value")) (.o 5)) rfl ?_
 refine aa (this ..) (aa (h ..) ?_);kernel_rfl
theorem Lg(ga:j6 G 5)(io:dn G)(nF:G.gl=aT)(hK:G.K=H.K P)(ja:(S nm).length<=1000000)(run:NR G.P nm mem nd=some r):IB G nm mem nd r:=
 fun T W m s q D f g L' Q E hS ok R k=>ab3 ga io nF hK hS ok R ja run fun W' h' tk aF x vs jM=>k W' m h' tk aF x vs jM
theorem Lf(ga:j6 G 5)(io:dn G)(nF:G.gl=aT)(hK:G.K=H.K P)(ja:(S nm).length<=1000000)(run:WM G.P nm mem nd=some r):IB G nm mem nd r:=
 fun T W m s q D f g L' Q E hS ok R k=>ab2 ga io nF hK hS ok R ja run k
section
theorem m4(tG:eb G)(inv:Inv G T n aA r c m s.heap loc W)(hc:c=false->FU r)(hn:37<=n)(iB:T.outer=[])(hb:T.base=T.h₀)(m3:∀x v,ah x loc=some v->cJ 47 v=true)(hk:(k,nm)∈mq)(hu:bE W [.o 5, .o 7, .o 8,sA nm] us)
  (post:∀ae h' tk,Inv G T n aA r c m h' loc ae->dJ bl W ae->Q (.bool true) {s with heap:=h',toks:=tk}):wpAny (model G.prog G.w) T.A (call (.ref 691) us []) Q E s:=by
 refine Wu (inv.reads hc hk) fun P J l qs f1 f2 f3 f4 f5 f6 f7 f8 run R=>?_
 have tP:eb (G.at P (ec J)):=tG.at f1 f2 f3
 have ga:j6 (G.at P (ec J)) 5:=tP.ga (CO tP (Hp l f4 f5))
 have io:dn (G.at P (ec J)):=ioE f6 f7
 refine aU tP.K fun Pp hK=>?_
 have ja:=Ms hk
 refine eN (vA hK EO) fun D O hB hS=>?_
 have hS':D.scope.names=sj:=by refine aa hS ?_;rfl
 have gH:T.Ok (G.at P (ec J)) 37 (.fn aA) (W.ext (qs.map cP)):=⟨inv.gH.gL.of hn,inv.gH.env.mono (W.cp _) fun _ h=>h⟩
 have oe:=xd ga.gk ga.ca io (du ga io 30)
 refine Fw (G:=G.at P (ec J)) (n:=36) O (by kernel_rfl) iB gH R (bE.mono (W.cp _) hu) (Dq nm) fun g L' m₁ aq ar iI j7 gM ak Dc back hE=>?_
 replace gM:=hS'▸gM
 refine aa hB ?_
 have fin:∀{σ:St},nI c σ r.x.l->∀(g':Heap) (W':Wd) (m':Str->Option Value) (h':Heap) (tk:Nat) (σ₀:St) (a:aL),KtsTurn ((T.aN::T.outer).filterMap (·.frame)) g g'->(W.ext (qs.map cP)).le W'->(bx T (rl (691, "_law_reads",H.qh,[])).qual D 691 g' L').Ok (G.at P (ec J)) 36 (.fn sj) W'->(bx T (rl (691, "_law_reads",H.qh,[])).qual D 691 g' L').Rep (G.at P (ec J)) h' m' W' ⟨a,σ₀.mem,σ₀.nd⟩->
   nC sj P (wm.drop 1) a σ₀.mem σ₀.nd=some (.ret (.bool true),σ)->wpAny (model G.prog G.w) (bx T (rl (691, "_law_reads",H.qh,[])).qual D 691 g L').A (execs (wm.drop 1) (bx T (rl (691, "_law_reads",H.qh,[])).qual D 691 g L').env) iI j7 {s with heap:=h',toks:=tk}:=fun {σ} he g' W' m' h' tk σ₀ a Tt le ok R' run=>by
  have DU:(bx T (rl (691, "_law_reads",H.qh,[])).qual D 691 g' L').Ok (G.at P (ec J)) 35 (.fn sj) W':=⟨ok.gL.of (Nat.le_succ 35),ok.env⟩
  refine uO ga.gk ga.ca oe (wm.drop 1) (.fn sj) (bx T (rl (691, "_law_reads",H.qh,[])).qual D 691 g' L') W' m' _ {s with heap:=h',toks:=tk} _ σ iI j7 DU R' (by refine aa (show (G.at P (ec J)).gl=aT from tG.gl) ?_;exact run) fun bu gT bq aQ fv bj cc rf=>?_
  refine ay rf fun v b7 rv=>?_;clear rf;subst b7
  subst rv
  refine back (G.at P (ec J)) bu bq aQ gT σ _ g' Tt cc fun kk=>?_
  refine ay (cF.leave (ex':=[]) (xs':=[]) (r':=r) (pi:=bl) (c':=c) (loc':=[]) inv f8 f2 (le.trans bj) (kk [] fun _ _ e=>zS e) rfl m7 ⟨eG,gi,⟨same,he.2,bH r J⟩,fun e=>⟨56,he.1 e,Nat.le_refl 56,f8⟩,inv.ok,fun _ _ e=>zS e⟩) fun ew cq hr=>?_
  exact post ew bq aQ (Inv.Dp cq hr inv.rep.loc m3) hr
 generalize hq:qs.length=nq at run R ak
 have exc:∀{σ:St},nI c σ r.x.l->nq=0->IB (G.at P (ec J)) nm (Mem.of (br c r.x.l)) 57 (.ret (.bool true),σ)->wpAny (model G.prog G.w) (bx T (rl (691, "_law_reads",H.qh,[])).qual D 691 g L').A (execs wm (bx T (rl (691, "_law_reads",H.qh,[])).qual D 691 g L').env) iI j7 {s with heap:=aq,toks:=ar}:=fun {σ} he h0 gv=>by
  subst h0
  exact Le (G:=G.at P (ec J)) (s:={s with heap:=aq,toks:=ar}) ga io tG.gl hK (ML P f2 _ _) hS gH hb ⟨_,O,by kernel_rfl,rfl⟩ gM ak Dc hE gv fun g' W' m' h' tk aF Tt le qf R' rest=>fin he g' W' m' h' tk aF _ Tt le qf R' rest
 induction run with
 |a e1 he=>exact exc he rfl (Lg ga io tG.gl hK ja e1)
 |v e1 he=>exact exc he rfl (Lf ga io tG.gl hK ja e1)
 |c e1 he=>
  refine ay (oX e1) fun aE e2 e3=>?_
  have DU:(bx T (rl (691, "_law_reads",H.qh,[])).qual D 691 g L').Ok (G.at P (ec J)) 35 (.fn sj) (W.ext (qs.map cP)):=⟨gM.gL.of (Nat.le_succ 35),gM.env⟩
  show wpAny _ _ (execs wm _) _ _ _
  refine aa Dr ?_
  refine wpAny_execs_cons (wpAny_Try_except (wpAny_execs_cons ?_))
  have xg:=IZ ga.gk ga.ca oe lU (.fn sj)
  unfold ya at xg
  replace xg:=(show (G.at P (ec J)).gl=aT from tG.gl)▸xg
  refine xg (bx T (rl (691, "_law_reads",H.qh,[])).qual D 691 g L') _ m₁ _ {s with heap:=aq,toks:=ar} .next aE _ _ DU ak e2 fun ae m₂ aJ aG fv ax az rf=>?_
  subst rf
  refine wpAny_execs_nil (wpAny_execs_nil ?_)
  exact fin he g ae m₂ aJ aG aE aE.loc KtsTurn.refl ax (gM.mono ax) az e3
theorem wX(tG:eb G)(inv:Inv G T n aA r true m s.heap loc W)(hn:37<=n)(iB:T.outer=[])(hb:T.base=T.h₀)(m3:∀x v,ah x loc=some v->cJ 47 v=true)(hk:(k,nm)∈mq)(hu:bE W [.o 5, .o 7, .o 8,sA nm] us)
  (post:∀ae h' tk,Inv G T n aA r true m h' loc ae->dJ bl W ae->Q (.bool true) {s with heap:=h',toks:=tk}):wpAny (model G.prog G.w) T.A (call (.ref 691) us []) Q E s:=
 m4 tG inv (fun e=>zF e) hn iB hb m3 hk hu post
end
end
section
open PySem
noncomputable def uK(pi:List Nat)(loc':aL)(r:R Bool):Option (Bool×Option AO×List (Option AV)×Fd):=Option.map (fun z=>(z.1,z.2.mem.get 0,loc'.map (fun p=>ah p.1 z.2.loc),fdOf pi z.2)) r
noncomputable def vL(b:Bool)(pi:List Nat)(loc':aL)(subs:List String)(sh:List PV):Option (Bool×Option AO×List (Option AV)×Fd):=some (b,some (.cell (.d 56)),loc'.map (fun p=>some (cV pi p.2)),lY pi true subs (sh.map some))
noncomputable def wV(P:bA)(e:Expr)(subs:List String)(loc:aL)(k:Nat):R Bool:=(den P (cH P 30) (cE aT (.fn aA) e)).ts cb ⟨loc,Mem.of (br true subs),57+k⟩
noncomputable def F6:List Int:=[4,5,6]
noncomputable def ifs:List Stmt:=[Eo,if1,if2,xC,MA]
theorem KZ:∀subs,(F6.map fun kd=>ifs.map fun st=>uK bl (ke kd) (wV dA (bw st) subs (ke kd) 1))=F6.map fun kd=>ifs.map fun _=>vL false bl (ke kd) subs same:=fun subs=>by kernel_rfl
noncomputable def N8:Stmt:=bO iQ 1
noncomputable def M4:Stmt:=bO iQ 2
noncomputable def tU(un:Bool):List (Nat×Tg):=[(5,bif un then .none else .nn)]
noncomputable def X2(un:Bool):bA:={aR with tags:=bB 70 (tU un),kn:=56,spec:=spT (tU un)}
theorem KY:∀subs,(F6.map fun kd=>bools.map fun un=>uK bl (ke kd) (wV (X2 un) (bw N8) subs (ke kd) 1))=F6.map fun kd=>bools.map fun un=>vL (decide (kd=6)&&un) bl (ke kd) subs same:=fun subs=>by kernel_rfl
theorem KW:∀subs kd,uK bl (ke kd) (wV dA (bw M4) subs (ke kd) 1)=vL true bl (ke kd) subs same:=fun subs kd=>by kernel_rfl
noncomputable def g1:Stmt:=bO (bodyOf N8) 0
noncomputable def g2:Stmt:=bO (bodyOf M4) 0
noncomputable def oE(P:bA)(as:List Expr)(σ:St):R (List AV):=(den P (cH P 30) (gz aT (.fn aA) as)).sX cb σ
noncomputable def gN(subs:List String)(loc:aL)(k:Nat):St:=⟨loc,Mem.of (br true subs),57+k⟩
noncomputable def ze(v bt:Bool):List AV:=[.o 5, .o 10,sA (NU v), .o 7, .o 8, .o 6, .o 9, .d 56, .bool bt]
theorem K1:∀P subs kd,oE P (bD (bX g1)) (gN subs (ke kd) 1)=some (ze false false,gN subs (ke kd) 1):=fun P subs kd=>by kernel_rfl
noncomputable def pG2(b:Bool):bA:={dA with ops:=[(.Mod,56,2, .int (bI b))]}
theorem K0:∀subs,(F6.map fun kd=>bools.map fun b=>oE (pG2 b) (bD (bX g2)) (gN subs (ke kd) 1))=F6.map fun kd=>bools.map fun b=>some (ze (decide (kd=6)) (decide (kd=5)||(decide (kd=6)&&b)),gN subs (ke kd) 1):=fun subs=>by kernel_rfl
theorem Vw:MA= .If (bw MA) (bodyOf MA) iQ (posOf MA)/\iQ=[bO iQ 0,N8,M4,bO iQ 3]/\N8= .If (bw N8) [g1] [] (posOf N8)/\M4= .If (bw M4) [g2] [] (posOf M4):=by
 refine ⟨?_,?_,?_,?_⟩<;>kernel_rfl
theorem VN:cX= .If (bw Eo) (bodyOf Eo) [if1] (posOf Eo)/\if1= .If (bw if1) (bodyOf if1) [if2] (posOf if1)/\if2= .If (bw if2) (bodyOf if2) [xC] (posOf if2)/\xC= .If (bw xC) (bodyOf xC) [MA] (posOf xC):=by
 refine ⟨?_,?_,?_,?_⟩<;>kernel_rfl
noncomputable def gcF(g:Stmt):Stmt:= .Assign [.Name (S "good") (wb g)] (.Call (bK (bX g)) (bD (bX g)) [] (kI (bX g))) (Ir g)
theorem Vj:g1=gcF g1:=by kernel_rfl
theorem Vi:g2=gcF g2:=by kernel_rfl
theorem Vg:(∀P,(den P (cH P 30) (cE aT (.fn aA) (bK (bX g1)))).ev=BY (.k 679))/\∀P,(den P (cH P 30) (cE aT (.fn aA) (bK (bX g2)))).ev=BY (.k 679):=⟨fun P=>by kernel_rfl,fun P=>by kernel_rfl⟩
noncomputable def gU(e:Expr):Bool:=Nat.beq e.ctorIdx 20
theorem Vh:(gU (bK (bX g1))||(gU (bK (bX g2))||(!aZ (bD (bX g1)) || !aZ (bD (bX g2)))))=false:=by kernel_rfl
end
section
open PySem PySem.W PySem.Calls PyProof.Rows PyProof.V PySem.Spec
theorem uj(h:uK pi loc x=vL b pi loc subs sh):
  ∃σ,x=some (b,σ)/\σ.mem.get 0=some (.cell (.d 56))/\(loc.map (fun p=>ah p.1 σ.loc)=loc.map fun p=>some (cV pi p.2))/\fdOf pi σ=lY pi true subs (sh.map some):=by
 induction x with
 |none=>exact zS h
 |some z=>
  obtain ⟨b',σ⟩:=z
  have h:=aH h
  replace h:=(Prod.mk.injEq ..)▸h;replace h:=(Prod.mk.injEq ..)▸h;replace h:=(Prod.mk.injEq ..)▸h
  refine tJ h fun h1 h2 h3 h4=>?_;clear h
  have h1:b'=b:=h1
  subst h1
  exact ⟨σ,rfl,h2,h3,h4⟩
section
theorem mw(tG:eb G)(bz:T.cx=cb)(hn:35<=n)(inv:Inv G T n aA r true m s.heap (fb kd ++ [f_ "i" (.int i)]) W) (k:aX r J P) (y0:J 56=r.q) (qt:J 57=i) (run:uK bl (ke kd) (wV P e r.x.l (ke kd) 1)=vL b bl (ke kd) r.x.l same)
  (post:∀ae h' tk,Inv G T n aA r true m h' (fb kd ++ [f_ "i" (.int i)]) ae->Q b {s with heap:=h',toks:=tk}):wpAny (model G.prog G.w) T.A (isTrue e T.env (eval e T.env)) Q E s:=by
 refine aU (kG inv.rep.loc (by kernel_rfl) inv.rep.n3) fun t hl=>?_
 refine jC (uj run) fun aF e1 e2 e3 e4=>?_
 refine qG (qs:=[(i,t)]) tG inv hn k y0 (fun j p e=>?_) hl (show (den P (cH P 30) (cE G.gl (.fn aA) e)).ts T.cx _=_ by refine aa tG.gl (aa bz ?_);exact e1)
  (⟨eG,gi,⟨same,e4,bH r J⟩,fun _=>⟨56,e2,by omega,y0⟩,inv.ok,nR (pre:=fb kd) (hZ kd) e3 qt⟩:Leave r r J bl true (fb kd ++ [f_ "i" (.int i)]) aF) post
 match j,e with
 | 0,e=>have b7:=aH e;clear e;clear e;subst b7;exact qt
theorem nO(h:∀p∈pre,cJ 47 p.2=true/\cV bl p.2=p.2):∀x v,ah x (pre ++ [f_ "i" (.int i)])=some v->cJ 47 v=true:=fun x v e=>by
 rcases List.mem_append.mp (aO e) with hm | hm
 ·exact (h _ hm).1
 ·have e3:(x,v)=f_ "i" (.int i):=dU hm
  cases e3;rfl
theorem I2(h:∀p∈pre,cJ 47 p.2=true/\cV bl p.2=p.2)(hn:ah (code (S "i")) pre=none) (qt:J 57=i):yd J (pre ++ [f_ "i" (.d 57)]) (pre ++ [f_ "i" (.int i)]):=fun x v e=>by
 have e:ah x (pre ++ [(code (S "i"),AV.int i)])=some v:=e
 show ∃a,ah x (pre ++ [(code (S "i"),AV.d 57)])=some a/\_
 rw [gb] at e ⊢
 generalize q:ah x pre=bZ;induction bZ with
 |some v'=>
  replace e:=q▸e
  cases e
  exact ⟨v,rfl, .inl ⟨rfl,(h _ (aO q)).1⟩⟩
 |none=>
  replace e:=q▸e
  by_cases hx:code (S "i")=x
  ·rw [if_pos hx] at e ⊢
   have cw:=aH e;clear e;clear e;subst cw
   exact ⟨_,rfl, .inr ⟨57,rfl,by omega,by exact aa qt rfl⟩⟩
  ·replace e:=(if_neg hx)▸e;cases e
theorem pN(tG:eb G)(bz:T.cx=cb)(hn:35<=n)(inv:Inv G T (n+1) aA r true m s.heap (fb kd ++ [f_ "i" (.int i)]) W) (k:aX r (Jl [r.q,i]) P) (h0:r.res 0≠ .none) (h5:v=true->r.res 5≠ .none) (gis:g=gcF g) (ha:gU (bK (bX g))=false) (hs:aZ (bD (bX g))=true) (Vf:∀P,(den P (cH P 30) (cE aT (.fn aA) (bK (bX g)))).ev=BY (.k 679))
  (run:oE P (bD (bX g)) (gN r.x.l (ke kd) 1)=some (ze v bt,gN r.x.l (ke kd) 1))
  (post:∀r' ae m' h' tk,r'.res 0≠ .none->(v=false\/r.res 5≠ .none->r'.res 5≠ .none)->r'.q=r.q->r'.x=r.x->Inv G T (n+1) aA r' true m' h' (fb kd ++ [f_ "i" (.int i)]) ae->Q .next {s with heap:=h',toks:=tk}):wpAny (model G.prog G.w) T.A (exec g T.env) Q E s:=by
 have mr:35<=n+1:=Nat.le_succ_of_le hn
 refine aU (kG inv.rep.loc (by kernel_rfl) inv.rep.n3) fun t hl=>?_
 have m3:=nO (i:=i) (hZ kd)
 have hk:keepIn G.K (.ref 679)=true:=by
  refine aU tG.K fun P hK=>?_
  refine ay (vA hK ER) fun D O _=>?_
  exact nU O
 have aeR:mL (.Name (S "good") (wb g))=false:=rfl
 have hw:swappedStores [.Name (S "good") (wb g)] (.Call (bK (bX g)) (bD (bX g)) [] (kI (bX g))) T.env=pure none:=rfl
 refine aa gis ?_
 refine wpAny_Assign_stores (ro (qs:=[(i,t)]) (a:=679) (vs:=ze v bt) (vs':=[.o 5, .o 10,sA (NU v), .o 7, .o 8, .o 6, .o 9, .int r.q, .bool bt]) tG inv mr k rfl (Nat.le_refl 1) (fun j p e=>?_) hl (I2 (hZ kd) (by kernel_rfl) rfl) hk (fun o x p e=>by replace ha:=e▸ha;exact zF ha) hs (by refine aa tG.gl ?_;exact Vf P) (by refine aa tG.gl (aa bz ?_);exact run)
  ⟨.inl ⟨rfl,rfl⟩, .inl ⟨rfl,rfl⟩, .inl ⟨rfl,rfl⟩, .inl ⟨rfl,rfl⟩, .inl ⟨rfl,rfl⟩, .inl ⟨rfl,rfl⟩, .inl ⟨rfl,rfl⟩, .inr ⟨56,rfl,by omega,rfl⟩, .inl ⟨rfl,rfl⟩,trivial⟩ fun ae aJ aG us bc hr hu=>?_) (xk (e:= .Call (bK (bX g)) (bD (bX g)) [] (kI (bX g))) rfl (some (.Name (S "good") (wb g))) (Ir g).line T.env) hw
 ·match j,e with
  | 0,e=>have dC:=aH e;clear e;clear e;subst dC;rfl
 refine E7 (s:={s with heap:=aJ,toks:=aG}) tG bc hn m3 h0 h5 hu fun r' bu bq aQ n0 n5 hq hx bJ hr3=>?_
 refine aa (jP rfl ..) ?_
 show wpAny _ _ (assign (.Name (S "good") (wb g)) T.env (.bool true)) _ _ _
 have R:=cF.enter (ex:=[]) (xs:=[]) (qs:=[]) (loc':=fb kd ++ [f_ "i" (.int i)]) (J:=fun _=>r'.q) bJ (hQ (r:=r')).tab rfl (fun _ _ e=>zS e) (fun _ _ e=>zS e) (bJ.rep.loc.mono (bu.cp []))
 replace R:=(gx ..)▸R
 have EB:(den dA (fun _ _ _ _=>none) (fM (.fn aA) (S "good"))).asg (.bool true) T.cx ⟨fb kd ++ [f_ "i" (.int i)],Mem.of (br true r'.x.l),57⟩=some ⟨b8 (code (S "good")) (.bool true) (fb kd ++ [f_ "i" (.int i)]),Mem.of (br true r'.x.l),57⟩:=by refine aa bz ?_;kernel_rfl
 refine jH (G:=G.at dA (ec fun _=>r'.q)) (n:=35) (b:= .fn aA) (S "good") (wb g) (fun _ _ _ _=>none) T _ m _ {s with heap:=bq,toks:=aQ} (.bool true) (.bool true) _ _ _ (cF.BO (s:={s with heap:=bq,toks:=aQ}) (qs:=[]) bJ mr _) R rfl EB fun ew gm cQ cz _ js gA _=>?_
 have lg:yd (fun _=>r'.q) (b8 (code (S "good")) (.bool true) (fb kd ++ [f_ "i" (.int i)])) (fb kd ++ [f_ "i" (.int i)]):=fun x v e=>by
  refine aa (cU ..) ?_
  by_cases hx:code (S "good")=x
  ·subst hx
   have z:ah (code (S "good")) (fb kd ++ [f_ "i" (.int i)])=some (.bool true):=by kernel_rfl
   replace e:=z▸e
   have dk:=aH e;clear e;subst dk
   exact ⟨_,if_pos rfl, .inl ⟨rfl,rfl⟩⟩
  ·refine aa (if_neg hx ..) ?_
   exact ⟨v,e, .inl ⟨rfl,m3 x v e⟩⟩
 refine ay (Inv.IV (s:={s with heap:=bq,toks:=aQ}) bJ (P:=dA) (J:=fun _=>r'.q) (qs:=[]) rfl rfl (Nat.zero_le 1) js gA lg) fun kR dh _=>?_
 exact post r' kR gm cQ cz n0 n5 hq hx dh
end
theorem Mq{a:Res}(h:a≠ .none):a.eA≠ .none:=by induction a<;>first | exact absurd rfl h | exact nofun
theorem O0{r:Rec}(h:un=true<->r.res 5= .none):aX r J (X2 un):=by
 refine Dk (l:=tU un) rfl rfl (all_cons ?_ all_nil) (all_cons (zd rfl) all_nil) rfl rfl rfl rfl rfl rfl rfl rfl rfl (gS rfl) (bR rfl)
 induction un with
 |true=>show (r.res 5).eA= .none;refine aa (h.mp rfl) ?_;rfl
 |false=>exact Mq fun e=>Bool.false_ne_true (h.mpr e)
theorem O1(ok:r.Ok)(hb:r.q%2=bI b):aX r (Jl [r.q,i]) (pG2 b):=
 oF rfl rfl rfl rfl rfl rfl rfl rfl rfl rfl rfl (fun _ _ _ _ _ e=>fR (all_cons (eH (J:=Jl [r.q,i]) (a:=56) (Nat.le_refl 56) (by decide) (by decide) (.inl (congrArg AV.int hb.symm))) all_nil) e) (bR rfl)
section
variable {G:Gx}
theorem lL(tG:eb G)(bz:T.cx=cb)(hn:35<=n)(inv:Inv G T n aA r true m s.heap (fb kd ++ [f_ "i" (.int i)]) W) {st:Stmt} (Er:st= .If (bw st) b o p) (run:uK bl (ke kd) (wV dA (bw st) r.x.l (ke kd) 1)=vL false bl (ke kd) r.x.l same)
  (post:∀ae h' tk,Inv G T n aA r true m h' (fb kd ++ [f_ "i" (.int i)]) ae->wpAny (model G.prog G.w) T.A (execs o T.env) Q E {s with heap:=h',toks:=tk}):wpAny (model G.prog G.w) T.A (exec st T.env) Q E s:=by
 refine aa Er ?_
 exact wpAny_If (mw tG bz hn inv (hQ (J:=Jl [r.q,i])) rfl rfl run fun ae h' tk bF=>post ae h' tk bF)
theorem dZ{st:Stmt}(h:wpAny (model G.prog G.w) A (exec st env) Q E s):wpAny (model G.prog G.w) A (execs [st] env) Q E s:=
 wpAny_execs_cons (wpAny_mono h (fun f s' h=>match f,h with
  | .next,h=>wpAny_execs_nil h
  | .brk,h=>h
  | .cont,h=>h
  | .ret _,h=>h) fun _ _ h=>h)
theorem mx(tG:eb G)(bz:T.cx=cb)(hn:35<=n)(N5:kd∈F6)(inv:Inv G T (n+1) aA r true m s.heap (fb kd ++ [f_ "i" (.int i)]) W)
  (post:∀r' ae m' h' tk,Inv G T (n+1) aA r' true m' h' (jY i) ae->Q .next {s with heap:=h',toks:=tk}):wpAny (model G.prog G.w) T.A (exec cX T.env) Q E s:=by
 have mr:35<=n+1:=Nat.le_succ_of_le hn
 refine tJ VN fun c0 c1 c2 c3=>?_
 refine tJ Vw fun c7 ce ce1 ce2=>?_
 have rk:=fun (subs:List String)=>aw (KZ subs) kd N5
 refine lL tG bz mr inv c0 (aw (rk _) Eo (by simp [ifs])) fun W₁ aq ar ff=>dZ ?_
 refine lL (s:={s with heap:=aq,toks:=ar}) tG bz mr ff c1 (aw (rk _) if1 (by simp [ifs])) fun ae aJ aG bc=>dZ ?_
 refine lL (s:={s with heap:=aJ,toks:=aG}) tG bz mr bc c2 (aw (rk _) if2 (by simp [ifs])) fun bu bq aQ bJ=>dZ ?_
 refine lL (s:={s with heap:=bq,toks:=aQ}) tG bz mr bJ c3 (aw (rk _) xC (by simp [ifs])) fun ew cQ cz cq=>dZ ?_
 refine lL (s:={s with heap:=cQ,toks:=cz}) tG bz mr cq c7 (aw (rk _) MA (by simp [ifs])) fun kR iX gK dh=>?_
 refine aa ce ?_
 refine wpAny_execs_cons (wJ (s:={s with heap:=iX,toks:=gK}) tG bz mr dh fun aK i5 Ma qp oh n0 _ _ _ _ aeM kK=>?_)
 have last:∀(aV:Rec) qA Uu pJ og,aV.res 0≠ .none->(kd=6->aV.res 5≠ .none)->Inv G T (n+1) aA aV true Uu pJ (fb kd ++ [f_ "i" (.int i)]) qA->wpAny (model G.prog G.w) T.A (execs [M4,bO iQ 3] T.env) Q E {s with heap:=pJ,toks:=og}:=fun aV qA Uu pJ og n0 n5 gp=>by
  refine wpAny_execs_cons ?_
  refine aa ce2 ?_
  refine wpAny_If (mw (s:={s with heap:=pJ,toks:=og}) (P:=dA) (J:=Jl [aV.q,i]) tG bz mr gp hQ rfl rfl (KW _ kd) fun Iv Ep tZ kJ=>dZ ?_)
  obtain ⟨b,hb⟩:∃b,aV.q%2=bI b:=⟨odd aV.q,(sE aV.q).trans (by cases odd aV.q<;>rfl)⟩
  have EA:=Vh
  simp only [Bool.or_eq_false_iff,Bool.not_eq_false'] at EA
  refine pN (s:={s with heap:=Ep,toks:=tZ}) tG bz hn kJ (O1 kJ.ok hb) n0 (fun h=>n5 (of_decide_eq_true h)) Vi EA.2.1 EA.2.2.2 Vg.2 (aw (aw (K0 aV.x.l) kd N5) b (ft b)) fun eC ahB af9 abB OE _ _ _ _ Mx=>?_
  exact dZ (CI (s:={s with heap:=abB,toks:=OE}) tG bz mr Mx fun W m h tk bF=>post eC W m h tk bF)
 refine wpAny_execs_cons ?_
 refine aa ce1 ?_
 have EA:=Vh
 simp only [Bool.or_eq_false_iff,Bool.not_eq_false'] at EA
 have WZ:∃un:Bool,un=true<->aK.res 5= .none:=by
  by_cases h:aK.res 5= .none
  ·exact ⟨true,fun _=>h,fun _=>rfl⟩
  ·exact ⟨false,fun e=>(zT e),fun e=>absurd e h⟩
 refine aU WZ fun un WZ=>?_
 refine wpAny_If (mw (s:={s with heap:=qp,toks:=oh}) (P:=X2 un) (J:=Jl [aK.q,i]) tG bz mr kK (O0 WZ) rfl rfl (aw (aw (KY aK.x.l) kd N5) un (ft un)) fun qA pJ og gp=>?_)
 generalize hb:(decide (kd=6)&&un)=bZ;induction bZ with
 |true=>
  refine dZ (pN (s:={s with heap:=pJ,toks:=og}) (v:=false) (bt:=false) (P:=dA) tG bz hn gp hQ n0 (fun h=>zT h) Vj EA.1 EA.2.2.1 Vg.1 (K1 _ _ kd) fun aV Iv L6 Ep tZ m0 m5 _ _ kJ=>?_)
  exact last aV Iv L6 Ep tZ m0 (fun _=>m5 (.inl rfl)) kJ
 |false=>
  refine wpAny_execs_nil ?_
  refine last aK qA Ma pJ og n0 (fun h6 h5=>?_) gp
  replace hb:=(WZ.mpr h5)▸hb;replace hb:=h6▸hb
  exact zF hb
end
end
section
open PySem
noncomputable def lH:aL:=bC [] ++ [f_ "i" (.d 57),f_ "n" (.d 58)]
noncomputable def pH(kd:Int):bA:={dA with ops:=[(.FloorDiv,58,8, .d 59),(.Mod,61,8, .int kd)],eu:=[(.Add,59,57, .d 60),(.Add,58,57, .d 61)]}
noncomputable def NX:List Int:=[0,1,2,3,4,5,6,7]
noncomputable def Dj(P:bA)(l:List Stmt)(σ:St):R AF:=(den P (cH P 30) (tO aT (.fn aA) l)).qw cb σ
noncomputable def ac8(kd:Int)(subs:List String):Option (AF×Option AO×List (Option AV)×Fd):=some (.next,some (.cell (.d 60)),(ke kd).map (fun p=>some (cV bl p.2)),lY bl true subs (same.map some))
theorem C5:∀subs,(bools.map fun c=>NX.map fun kd=>nD bl (ke kd) (Dj (pH kd) (gY.take 3) ⟨lH,Mem.of (br c subs),59⟩))=bools.map fun _=>NX.map fun kd=>ac8 kd subs:=fun subs=>by kernel_rfl
noncomputable def lI:Stmt:=bO gY 4
noncomputable def HB(e:Expr):Expr:=dR (xE e) 0
noncomputable def Gw(e:Expr):Pos:=e.pos
noncomputable def V9(e:Expr):List Expr:=xE e
noncomputable def yN:List Expr:=V9 (HB (bw lI))
noncomputable def ae0:Expr:=dR yN 0
noncomputable def We:Expr:=dR yN 1
noncomputable def Wc:Expr:=dR yN 2
noncomputable def Wb:Expr:=dR yN 3
noncomputable def kj(e:Expr):Expr:= .Call (bK e) (bD e) [] (kI e)
theorem yM:lI= .If (.UnaryOp .Not (.BoolOp .And [ae0,kj We,kj Wc,kj Wb] (Gw (HB (bw lI)))) (Gw (bw lI))) (bodyOf lI) [] (posOf lI)/\gY.drop 3=[cX,lI]:=by
 refine ⟨?_,?_⟩<;>kernel_rfl
theorem C6:∀subs,uK bl lT (wV dA ae0 subs lT 1)=vL true bl lT subs same:=fun subs=>by kernel_rfl
noncomputable def pI(o:Bool):bA:={dA with ops:=[(.Mod,57,2, .int (bI o))]}
noncomputable def FD(nm:String)(l:Bool):List AV:=[.o 5, .o 10,sA nm, .o 7, .o 6, .o 9, .bool l]
theorem Hj:∀subs,(bools.map fun o=>(oE (pI o) (bD We) (gN subs lT 1),oE (pI o) (bD Wc) (gN subs lT 1)))=bools.map fun o=>(some (FD "U" (!o),gN subs lT 1),some (FD "V" o,gN subs lT 1)):=fun subs=>by kernel_rfl
noncomputable def pQ(k:Nat):bA:={dA with ops:=[(.Mod,56,7, .int (k:Nat))]}
noncomputable def Pa(nm:String):List AV:=[.o 5, .o 7, .o 8,sA nm]
theorem Hi:∀subs,(mq.map fun k=>oE (pQ k.1) (bD Wb) (gN subs lT 1))=mq.map fun k=>some (Pa k.2,gN subs lT 1):=fun subs=>by kernel_rfl
theorem Wa:(gU (bK We)||(gU (bK Wc)||(gU (bK Wb)||(!aZ (bD We)||(!aZ (bD Wc) || !aZ (bD Wb))))))=false:=by kernel_rfl
theorem FK:(∀P,(den P (cH P 30) (cE aT (.fn aA) (bK We))).ev=BY (.k 684))/\(∀P,(den P (cH P 30) (cE aT (.fn aA) (bK Wc))).ev=BY (.k 684))/\∀P,(den P (cH P 30) (cE aT (.fn aA) (bK Wb))).ev=BY (.k 691):=⟨fun P=>by kernel_rfl,fun P=>by kernel_rfl,fun P=>by kernel_rfl⟩
end
section
open PySem PySem.W PySem.Calls PyProof.Rows PyProof.V PySem.Spec
theorem cv.LU(h:∀p∈l,∀x,code x=p.1->∃u,m x=some u/\VR W p.2 u):cv W m l:=fun x v e=>h (code x,v) (aO e) x rfl
theorem HH(h:cv W m (bC [] ++ [f_ "i" (.int i),f_ "n" (.int v)])) (qt:W.gam.length=57):∃t t',cv (W.ext ([(i,t),(v,t')].map cP)) m lH:=by
 obtain ⟨u1,e1,t1,rfl⟩:=h (S "i") (.int i) (by kernel_rfl)
 obtain ⟨u2,e2,t2,rfl⟩:=h (S "n") (.int v) (by kernel_rfl)
 refine ⟨t1,t2,cv.LU fun p hp x hx=>?_⟩
 have g:∀k u,[Value.int i t1, .int v t2][k]?=some u->(W.gam ++ [Value.int i t1, .int v t2])[57+k]?=some u:=fun k u e=>by refine aa (List.getElem?_append_right (by omega) ..) (aa (qt ..) (aa (Nat.add_sub_cancel_left ..) ?_));exact e
 rcases List.mem_append.mp hp with hp | hp
 ·have h2:cv W m (bC []):=h.sub (by kernel_rfl)
  have e:(bC []).map (fun p=>ah p.1 (bC []))=(bC []).map fun p=>some p.2:=by kernel_rfl
  refine ay (h2 x p.2 (by refine aa hx ?_;exact aw e p hp)) fun u a b=>?_
  exact ⟨u,a,b.mono (W.cp _)⟩
 ·rcases gn hp with rfl | hp
  ·cases code_inj (show code x=code (S "i") from hx)
   exact ⟨_,e1,g 0 _ rfl⟩
  ·cases dU hp
   cases code_inj (show code x=code (S "n") from hx)
   exact ⟨_,e2,g 1 _ rfl⟩
theorem UH(x:Int):x%8∈NX:=sI x (n:=8) (by decide)
section
variable {r:Rec}
theorem Rec.XQ(ok:r.Ok)(q:Int):({r with q:=q}:Rec).Ok:=⟨ok.u,ok.v,ok.um,ok.vm,ok.vn,ok.vu,ok.vv⟩
theorem zY(tG:eb G)(bz:T.cx=cb)(hn:35<=n)(hi:0<=i/\i<8)(inv:Inv G T n aA r c m s.heap (bC [] ++ [f_ "i" (.int i),f_ "n" (.int v)]) W)
  (post:∀kd r' ae m' h' tk,kd∈NX->Inv G T n aA r' true m' h' (fb kd ++ [f_ "i" (.int i)]) ae->wpAny (model G.prog G.w) T.A (execs rest T.env) Q E {s with heap:=h',toks:=tk}):wpAny (model G.prog G.w) T.A (execs (gY.take 3++rest) T.env) Q E s:=by
 refine BK (HH inv.rep.loc inv.rep.n3) fun t1 t2 hl=>?_
 have N5:=UH (v+i)
 have run:=aw (aw (C5 r.x.l) c (ft c)) _ N5
 have hz:∃σ,Dj (pH ((v+i)%8)) (gY.take 3) ⟨lH,Mem.of (br c r.x.l),59⟩=some (.next,σ)/\σ.mem.get 0=some (.cell (.d 60))/\((ke ((v+i)%8)).map (fun p=>ah p.1 σ.loc)=(ke ((v+i)%8)).map fun p=>some (cV bl p.2))/\fdOf bl σ=lY bl true r.x.l (same.map some):=by
  generalize hx:Dj (pH ((v+i)%8)) (gY.take 3) ⟨lH,Mem.of (br c r.x.l),59⟩=bZ;induction bZ with
  |none=>replace run:=hx▸run;exact zS run
  |some z=>
   obtain ⟨fl,σ⟩:=z
   replace run:=hx▸run
   have h:=aH run
   replace h:=(Prod.mk.injEq ..)▸h;replace h:=(Prod.mk.injEq ..)▸h;replace h:=(Prod.mk.injEq ..)▸h
   refine tJ h fun h1 h2 h3 h4=>?_;clear h
   have h1:fl= .next:=h1
   subst h1
   exact ⟨σ,rfl,h2,h3,h4⟩
 refine jC hz fun σ e1 e2 e3 e4=>?_;clear hz
 generalize hJ:Jl [r.q,i,v,v/8,v/8+i,v+i]=J
 have I7:J 57=i:=by refine aa (Eq.symm hJ) ?_;rfl
 have j58:J 58=v:=by refine aa (Eq.symm hJ) ?_;rfl
 have I6:J 59=v/8:=by refine aa (Eq.symm hJ) ?_;rfl
 have j60:J 60=v/8+i:=by refine aa (Eq.symm hJ) ?_;rfl
 have j61:J 61=v+i:=by refine aa (Eq.symm hJ) ?_;rfl
 have o1:IA J (.FloorDiv,58,8, .d 59):=⟨v/8,zd rfl,by show (if (0:Int)<8 then some (J 58/8) else none)=_;refine aa j58 ?_;exact if_pos (by decide),by decide, .inr ⟨59,rfl,by omega,I6⟩⟩
 have o2:IA J (.Mod,61,8, .int ((v+i)%8)):=eH (a:=61) (zd rfl) (by decide) (by decide) (.inl (by exact aa j61 rfl))
 have p1:Iz J (.Add,59,57, .d 60):=⟨v/8+i,zd rfl,zd rfl,by show some (J 59+J 57)=_;exact aa I6 (aa I7 rfl),by show (J 57).natAbs<_;refine aa I7 ?_;omega, .inr ⟨60,rfl,by omega,j60⟩⟩
 have p2:Iz J (.Add,58,57, .d 61):=⟨v+i,zd rfl,zd rfl,by show some (J 58+J 57)=_;exact aa j58 (aa I7 rfl),by show (J 57).natAbs<_;refine aa I7 ?_;omega, .inr ⟨61,rfl,by omega,j61⟩⟩
 have rk:aX r J (pH ((v+i)%8)):=oF rfl rfl rfl rfl rfl rfl rfl rfl rfl rfl rfl (fun _ _ _ _ _ e=>fR (all_cons o1 (all_cons o2 all_nil)) e) fun _ _ _ _ _ e=>sC (all_cons p1 (all_cons p2 all_nil)) e
 refine fE (J:=J) (P:=pH ((v+i)%8)) (r':={r with q:=v/8+i}) (ex:=[]) (ex':=[]) (xs:=[]) (xs':=[]) (qs:=[(i,t1),(v,t2)]) (pi:=bl) (c':=true) (loc':=fb ((v+i)%8) ++ [f_ "i" (.int i)]) tG inv hn rk (by refine aa (Eq.symm hJ) ?_;rfl) Ay (fun j p e=>?_) hl rest (by refine aa (tG.gl ..) (aa (bz ..) (aa (gx ..) ?_));exact e1) rfl m7
  ⟨eG,gi,⟨same,e4,bH r J⟩,fun _=>⟨60,e2,by omega,j60⟩,Rec.XQ inv.ok _,nR (pre:=fb ((v+i)%8)) (hZ _) e3 I7⟩ fun ae m' h' tk bF _=>post _ _ ae m' h' tk N5 bF
 match j,e with
 | 0,e=>have cw:=aH e;clear e;clear e;subst cw;exact I7
 | 1,e=>have dC:=aH e;clear e;clear e;subst dC;exact j58
theorem wz(tG:eb G)(bz:T.cx=cb)(hn:35<=n)(xF:ah (code (S "i")) pre=none) (MB:∀p∈pre,cJ 47 p.2=true/\cV bl p.2=p.2) (inv:Inv G T n aA r true m s.heap (pre ++ [f_ "i" (.int i)]) W) (k:aX r J P) (y0:J 56=r.q) (qt:J 57=i) (run:uK bl (pre ++ [f_ "i" (.d 57)]) (wV P e r.x.l (pre ++ [f_ "i" (.d 57)]) 1)=vL b bl (pre ++ [f_ "i" (.d 57)]) r.x.l same) {Q:Bool->Shared->Prop}
  (post:∀ae h' tk,Inv G T n aA r true m h' (pre ++ [f_ "i" (.int i)]) ae->Q b {s with heap:=h',toks:=tk}):wpAny (model G.prog G.w) T.A (isTrue e T.env (eval e T.env)) Q E s:=by
 refine aU (kG inv.rep.loc xF inv.rep.n3) fun t hl=>?_
 refine jC (uj run) fun aF e1 e2 e3 e4=>?_
 refine qG (qs:=[(i,t)]) tG inv hn k y0 (fun j p e=>?_) hl (show (den P (cH P 30) (cE G.gl (.fn aA) e)).ts T.cx _=_ by refine aa tG.gl (aa bz ?_);exact e1)
  (⟨eG,gi,⟨same,e4,bH r J⟩,fun _=>⟨56,e2,by omega,y0⟩,inv.ok,nR (pre:=pre) MB e3 qt⟩:Leave r r J bl true (pre ++ [f_ "i" (.int i)]) aF) post
 match j,e with
 | 0,e=>have dk:=aH e;clear e;clear e;subst dk;exact qt
theorem jt(tG:eb G)(hq:q∈ET):keepIn G.K (.ref q.1)=true:=by
 refine aU tG.K fun P hK=>?_
 refine ay (vA hK hq) fun D O _=>?_
 exact nU O
theorem xM:(684, "_law_ask",H.Nx,[])∈ET:=kW (i:=46) rfl
theorem mT(tG:eb G)(bz:T.cx=cb)(hn:35<=n)(inv:Inv G T n aA r true m s.heap (jY i) W)(k:aX r J P)(y0:J 56=r.q)(qt:J 57=i)(hk:keepIn G.K (.ref a)=true)(ha:gU (bK e)=false)(hs:aZ (bD e)=true)(Vf:∀P,(den P (cH P 30) (cE aT (.fn aA) (bK e))).ev=BY (.k a))
  (run:oE P (bD e) (gN r.x.l lT 1)=some (vs,gN r.x.l lT 1)) (hv:wh J vs vs) {Q:Bool->Shared->Prop}
  (post:∀ae h' tk us,Inv G T n aA r true m h' (jY i) ae->bE ae vs us->wpAny (model G.prog G.w) T.A (call (.ref a) us []) (fun v s'=>v= .bool true/\∀tk,Q true {s' with toks:=tk}) E {s with heap:=h',toks:=tk}):wpAny (model G.prog G.w) T.A (isTrue (kj e) T.env (eval (kj e) T.env)) Q E s:=by
 refine aU (kG inv.rep.loc (by kernel_rfl) inv.rep.n3) fun t hl=>?_
 refine wpAny_isTrue_value (ro (qs:=[(i,t)]) (a:=a) (vs:=vs) (vs':=vs) tG inv hn k y0 (Nat.le_refl 1) (fun j p e=>?_) hl (I2 fH (by kernel_rfl) qt) hk (fun o x p e=>by replace ha:=e▸ha;exact zF ha) hs (by refine aa tG.gl ?_;exact Vf P) (by refine aa tG.gl (aa bz ?_);exact run) hv fun ae h' tk us bF hr hu=>?_) rfl
 ·match j,e with
  | 0,e=>have eD:=aH e;clear e;clear e;subst eD;exact qt
 ·refine wpAny_mono (post ae h' tk us bF hu) (fun v s' h=>?_) fun _ _ h=>h
  obtain ⟨rfl,h⟩:=h
  exact wpAny_truthy_bool (h _)
theorem jA:∀{vs:List AV},vs.all (cJ 47)=true->wh J vs vs
 | [],_=>trivial
 |a::r,h=>by
  replace h:=(List.all_cons ..)▸h;replace h:=(Bool.and_eq_true ..)▸h
  exact ⟨.inl ⟨rfl,h.1⟩,jA h.2⟩
theorem zX(tG:eb G)(bz:T.cx=cb)(hn:37<=n)(iB:T.outer=[])(hb:T.base=T.h₀)(inv:Inv G T n aA r true m s.heap (jY i) W)
  (post:∀ae h' tk,Inv G T n aA r true m h' (jY i) ae->Q .next {s with heap:=h',toks:=tk}):wpAny (model G.prog G.w) T.A (exec lI T.env) Q E s:=by
 have mr:35<=n:=by omega
 obtain ⟨o,ho⟩:∃o,i%2=bI o:=⟨odd i,(sE i).trans (by cases odd i<;>rfl)⟩
 have rI:∀r:Rec,aX r (Jl [r.q,i]) (pI o):=fun r=>oF rfl rfl rfl rfl rfl rfl rfl rfl rfl rfl rfl (fun _ _ _ _ _ e=>fR (all_cons (eH (J:=Jl [r.q,i]) (a:=57) (zd rfl) (by decide) (by decide) (.inl (congrArg AV.int ho.symm))) all_nil) e) (bR rfl)
 obtain ⟨k,hk,h7⟩:∃k:Nat,r.q%7=k/\k<7:=⟨(r.q%7).toNat,by have:=Int.emod_nonneg r.q (by decide:(7:Int)≠0);omega,by have:=Int.emod_lt_of_pos r.q (by decide:(0:Int)<7);omega⟩
 obtain ⟨nm,ja⟩:∃nm,(k,nm)∈mq:=by
  refine ay (Option.map_eq_some_iff.mp (aw (l:=List.range 7) (f:=fun k=>mq[k]?.map (·.1)) (g:=some) rfl k (List.mem_range.mpr h7))) fun p e q=>?_
  exact ⟨p.2,q▸kW e⟩
 have rQ:∀r:Rec,r.q%7=k->aX r (Jl [r.q,i]) (pQ k):=fun r h=>oF rfl rfl rfl rfl rfl rfl rfl rfl rfl rfl rfl (fun _ _ _ _ _ e=>fR (all_cons (eH (J:=Jl [r.q,i]) (a:=56) (zd rfl) (by decide) (by decide) (.inl (congrArg AV.int h.symm))) all_nil) e) (bR rfl)
 have hae:=Wa
 simp only [Bool.or_eq_false_iff,Bool.not_eq_false'] at hae
 refine NJ hae fun a1 a2 a3 s1 s2 s3=>?_;clear hae
 have ras:=Prod.mk.injEq .. ▸ aw (Hj r.x.l) o (ft o)
 refine aa yM.1 ?_
 refine wpAny_If (wpAny_isTrue_Not (wpAny_isTrue_BoolOp (wpAny_allTrue_And_cons ?_)))
 refine wz (pre:=DG) (P:=dA) (J:=Jl [r.q,i]) tG bz mr (by kernel_rfl) fH inv hQ rfl rfl (C6 _) fun W₁ aq ar ff=>wpAny_allTrue_And_cons ?_
 refine mT (s:={s with heap:=aq,toks:=ar}) tG bz mr ff (rI r) rfl rfl (jt tG xM) a1 s1 FK.1 ras.1 (jA rfl) fun ae aJ aG us bc hu=>?_
 refine wa (s:={s with heap:=aJ,toks:=aG}) tG bc mr (nO fH) (.inl rfl) hu fun bu bq aQ bJ _=>⟨rfl,fun Kn=>wpAny_allTrue_And_cons ?_⟩
 refine mT (s:={s with heap:=bq,toks:=Kn}) tG bz mr bJ (rI r) rfl rfl (jt tG xM) a2 s2 FK.2.1 ras.2 (jA rfl) fun ew cQ cz us cq hu=>?_
 refine wa (s:={s with heap:=cQ,toks:=cz}) tG cq mr (nO fH) (.inr rfl) hu fun kR iX gK dh _=>⟨rfl,fun Km=>wpAny_allTrue_And_cons ?_⟩
 refine mT (s:={s with heap:=iX,toks:=Km}) tG bz mr dh (rQ r hk) rfl rfl (jt tG EO) a3 s3 FK.2.2 (aw (Hi r.x.l) (k,nm) ja) (jA rfl) fun i5 qp oh us kK hu=>?_
 refine wX (s:={s with heap:=qp,toks:=oh}) tG kK hn iB hb (nO fH) ja hu fun qA pJ og gp _=>⟨rfl,fun Kl=>wpAny_allTrue_And_nil ?_⟩
 exact wpAny_execs_nil (post qA pJ Kl gp)
end
section
theorem z5(tG:eb G)(bz:T.cx=cb)(hn:35<=n)(hi:0<=i/\i<8)(hk:kd∈NX)(inv:Inv G T (n+1) aA r true m s.heap (fb kd ++ [f_ "i" (.int i)]) W)
  (post:∀r' ae m' h' tk,Inv G T (n+1) aA r' true m' h' (jY i) ae->Q .next {s with heap:=h',toks:=tk}):wpAny (model G.prog G.w) T.A (exec cX T.env) Q E s:=by
 have mr:35<=n+1:=Nat.le_succ_of_le hn
 simp only [NX,List.mem_cons,List.mem_nil_iff,or_false] at hk
 rcases hk with rfl | rfl | rfl | rfl | rfl | rfl | rfl | rfl
 ·exact wH tG bz mr inv fun a v W m h tk _ i=>post _ W m h tk i
 ·exact wG tG bz mr hi inv fun k a v W m h tk _ _ i=>post _ W m h tk i
 ·exact step_forget tG bz mr inv fun k W m h tk _ i=>post _ W m h tk i
 ·exact wI tG bz mr inv fun x W m h tk i=>post _ W m h tk i
 ·exact mx tG bz hn (by simp [F6]) inv post
 ·exact mx tG bz hn (by simp [F6]) inv post
 ·exact mx tG bz hn (by simp [F6]) inv post
 ·exact wF tG bz mr inv fun a v W m h tk _ i=>post _ W m h tk i
theorem Gz(tG:eb G)(bz:T.cx=cb)(hn:36<=n)(iB:T.outer=[])(hb:T.base=T.h₀)(hi:0<=i/\i<8)(inv:Inv G T (n+1) aA r c m s.heap (bC [] ++ [f_ "i" (.int i),f_ "n" (.int v)]) W)
  (post:∀r' ae m' h' tk,Inv G T (n+1) aA r' true m' h' (jY i) ae->Q .next {s with heap:=h',toks:=tk}):wpAny (model G.prog G.w) T.A (execs gY T.env) Q E s:=by
 have e:gY=gY.take 3 ++ [cX,lI]:=by exact aa (Eq.symm (yM.2 ..)) (aa (List.take_append_drop ..) rfl)
 refine aa e ?_
 refine zY tG bz (by omega) hi inv fun kd aK W₁ m₁ aq ar hk ff=>?_
 refine wpAny_execs_cons (z5 (s:={s with heap:=aq,toks:=ar}) tG bz (AI hn rfl) hi hk ff fun aV ae m₂ aJ aG bc=>?_)
 exact dZ (zX (s:={s with heap:=aJ,toks:=aG}) tG bz (by omega) iB hb bc fun bu bq aQ bJ=>post aV bu m₂ bq aQ bJ)
end
end
section
end
section
open PySem PySem.W PySem.Calls PyProof.Rows PyProof.V PySem.Spec
section
variable {T:At}
theorem Inv.aD(inv:Inv G T n aA r c m h loc W)(N:∀p∈l,h.get? p.1=some p.2/\p.1≠T.L/\T.h₀.get? p.1=none)(fresh:∀p∈W.news T.fz,∀q∈l,p.1≠q.1)(nd:(l.map (·.1)).Nodup):Inv G (T.aD l) n aA r c m h loc W:=
 ⟨inv.rep.pP (l:=l) inv.rep.fr (fun p hp=>(List.mem_append.mp hp).elim (N p) (inv.rep.nw p)) fresh nd,inv.ie,inv.Gh,inv.ok,inv.gH.aD l,inv.Bx⟩
theorem Inv.weak(inv:Inv G T n aA r c m h loc W)(e:loc'.map (fun p=>ah p.1 loc)=loc'.map fun p=>some p.2):Inv G T n aA r c m h loc' W:=
 ⟨⟨inv.rep.fr,inv.rep.nw,inv.rep.nd,inv.rep.mem,inv.rep.n1,inv.rep.n2,inv.rep.n3,inv.rep.ob,inv.rep.loc.sub e,inv.rep.dat⟩,inv.ie,inv.Gh,inv.ok,inv.gH,inv.Bx⟩
structure ye(G:Gx)(T:At)(n:Nat)(r:Rec)(c:Bool)(loc:aL)(W:Wd)(σ:St):Prop where
 st:σ=⟨loc,Mem.of (gy c r.x.l []),57⟩
 ie:∀i v,W.gam[i]?=some v->Is G.prog G.w W.fx (aW r (J0 r []) i) (.v v)
 Gh:∀k d,(s6 r)[k]?=some d->∀g,FX G.prog G.w W.fx (W.gam++g) (44+k) d
 ok:r.Ok
 gH:T.Ok G n (.fn aA) W
 Bx:∀x i,ah x T.cx.cells=some i->i=0
theorem ye.inv(q:ye G T n r c loc W σ)(R:(T.aD l).Rep (G.at aR o6) h m W σ):Inv G (T.aD l) n aA r c m h loc W:=by
 obtain ⟨rfl,h1,h2,h3,h4,h5⟩:=q
 exact ⟨R,h1,h2,h3,h4.aD l,h5⟩
theorem ye.UL(q:ye G T n r c loc W σ)(R:T.Rep (G.at aR o6) h m W σ):Inv G T n aA r c m h loc W:=by
 obtain ⟨rfl,h1,h2,h3,h4,h5⟩:=q
 exact ⟨R,h1,h2,h3,h4,h5⟩
theorem DT(ok:(T.aD l).Ok G n (.fn aA) W):T.Ok G n (.fn aA) W:=⟨ok.gL,ok.env⟩
theorem Inv.core(inv:Inv G (T.aD l) n aA r c m h loc W):ye G T n r c loc W ⟨loc,Mem.of (gy c r.x.l []),57⟩:=⟨rfl,inv.ie,inv.Gh,inv.ok,DT inv.gH,inv.Bx⟩
theorem Inv.yi(inv:Inv G (T.aD l) n aA r c m h loc W):Inv G T n aA r c m h loc W:=⟨inv.rep.kg (l:=l),inv.ie,inv.Gh,inv.ok,DT inv.gH,inv.Bx⟩
theorem MU:∀subs loc,fdOf bl ⟨loc,Mem.of (br false subs),57⟩=lY bl false subs (same.map some):=fun subs loc=>by kernel_rfl
theorem Inv.CX(inv:Inv G T n aA r c m h loc W)(cls:P.cls=di)(hJ:J 56=r.q)(le:(W.ext []).le W₁)(R:T.Rep (G.at P (ec J)) h' m' W₁ ⟨bW,Mem.of (br c r.x.l),57⟩)(sU:yd J bW loc'):
  ∃ae,Inv G T n aA r c m' h' loc' ae/\dJ bl W ae:=by
 have fd:fdOf bl ⟨bW,Mem.of (br c r.x.l),57⟩=gO [] bl c r.x.l (Mine.same.map some):=by
  induction c with
  |true=>exact EV r.x.l bW
  |false=>exact MU r.x.l bW
 exact cF.leave (qs:=[]) (ex':=[]) (xs':=[]) (r':=r) (pi:=bl) (c':=c) inv hJ cls le R rfl m7 ⟨eG,gi,⟨Mine.same,fd,bH r J⟩,fun e=>⟨56,by subst e;exact zi _,Nat.le_refl 56,hJ⟩,inv.ok,fun x v e=>by
  refine ay (sU x v e) fun a e1 e2=>?_
  rcases e2 with ⟨rfl,hg⟩ | ⟨j,rfl,hj,rfl⟩
  ·exact .inl ⟨by refine aa (Lc hg) ?_;exact e1,hg⟩
  ·exact .inr ⟨j,e1,hj,rfl⟩⟩
theorem Inv.CY(inv:Inv G T n aA r c m h loc W)(cls:P.cls=di)(hJ:J 56=r.q)(le:(W.ext []).le W₁)(R:T.Rep (G.at P (ec J)) h' m' W₁ ⟨bW,Mem.of (br c r.x.l),57⟩)(sU:yd J bW loc'):
  ∃ae,Inv G T n aA r c m' h' loc' ae:=
 (Inv.CX inv cls hJ le R sU).imp fun _ h=>h.1
theorem Inv.grow(inv:Inv G T n aA r c m h loc W)(F:Fr T.h₀ T.L h' m)(hk:∀p∈W.news T.fz,h'.get? p.1=some p.2):Inv G T n aA r c m h' loc W:=
 ⟨inv.rep.heap F fun p hp=>⟨hk p hp,(inv.rep.nw p hp).2⟩,inv.ie,inv.Gh,inv.ok,inv.gH,inv.Bx⟩
end
noncomputable def jv:Stmt:=bO j3 8
noncomputable def H4(s:Stmt):Expr:=dR (xS s) 0
noncomputable def iZ(s:Stmt):Expr:=dR (xS s) 1
noncomputable def EN(s:Stmt):Pos:=s.pos
noncomputable def Ku(e:Expr):Expr:=dR (xE e) 0
noncomputable def gD(e:Expr):Pos:=e.pos
noncomputable def z4(e:Expr):Expr:=dR (xE e) 1
noncomputable def WJ(e:Expr):Expr:=dR (xE e) 0
noncomputable def qE(e:Expr):List Expr:=xE e
noncomputable def Kg(e:Expr):Nat:=xK e
noncomputable def BX:Expr:=H4 jv
noncomputable def pS:Expr:=dR (bD (iZ jv)) 0
theorem acd:jv= .For (.Tuple [.Name (S "i") (gD (dR (qE BX) 0)), .Name (S "n") (gD (dR (qE BX) 1))] (Kg BX) (gD BX)) (.Call (.Name (S "enumerate") (gD (bK (iZ jv)))) [.Subscript (.Name (S "script") (gD (Ku pS))) (.Slice none (some (.Constant (.int 8) (Mu (WJ (z4 pS))) (kI (WJ (z4 pS))))) none (gD (z4 pS))) (gD pS)] [] (kI (iZ jv))) gY [] (EN jv):=by kernel_rfl
noncomputable def lS(la:Addr):aL:=bC [] ++ [f_ "script" (.k la)]
theorem H5(P:bA)(cx:Cx)(σ:St):(den P (cH P 30) (cE aT (.fn aA) (.Name (S "enumerate") (gD (bK (iZ jv)))))).ev cx σ=some (.ty .enumerate,σ):=by kernel_rfl
theorem Bg(P:bA)(la:Addr)(mem:Mem)(nd:Nat):(den P (cH P 30) (cE aT (.fn aA) (.Name (S "script") (gD (Ku pS))))).ev cb ⟨lS la,mem,nd⟩=some (.k la,⟨lS la,mem,nd⟩):=by kernel_rfl
theorem Pc(vs:List Value):(slicePick vs.toArray none (some 8) none).toList=vs.take 8:=by
 refine aa (kms_pick_eq ..) ?_
 show (vs.drop 0).take (min 8 vs.length-0)=_
 exact aa (List.drop_zero ..) (aa (Nat.sub_zero ..) (aa (Eq.symm (List.take_take ..)) (aa (List.take_length ..) rfl)))
section
variable {vs:List Value}
theorem Bk(tG:eb G)(bz:T.cx=cb)(hn:35<=n)(inv:Inv G T n aA r c m s.heap (lS la) W)(hl:T.h₀.IsList la vs.toArray)(hv:vs.length<=900){K:Value->Shared->Prop}
  (post:∀D W' h' tk lo,h'.get? D=some lo->lo.cls= .type "list" ->lo.data= .seq (vs.take 8).toArray 0->D≠T.L->T.h₀.get? D=none->(∀p∈W'.news T.fz,p.1<D)->T.L<D->IsEnum h' (D+2) (D+1) 0 .none->h'.IsListIter (D+1) D 0->T.h₀.get? (D+1)=none->T.h₀.get? (D+2)=none->Inv G T n aA r c m h' (lS la) W'->K (.ref (D+2)) {s with heap:=h',toks:=tk}):
  wpAny (model G.prog G.w) T.A (eval (iZ jv) T.env) (fun x t6=>wpAny (model G.prog G.w) T.A (pyIter x) K E t6) E s:=by
 have hfi:iZ jv= .Call (.Name (S "enumerate") (gD (bK (iZ jv)))) [.Subscript (.Name (S "script") (gD (Ku pS))) (.Slice none (some (.Constant (.int 8) (Mu (WJ (z4 pS))) (kI (WJ (z4 pS))))) none (gD (z4 pS))) (gD pS)] [] (kI (iZ jv)):=by kernel_rfl
 have rk:aX r (fun _=>r.q) dA:=hQ
 have ga:=rk.ga tG
 have io:=rk.io G
 have oe:=xd ga.gk ga.ca io (du ga io 30)
 have R:=cF.enter (ex:=[]) (xs:=[]) (qs:=[]) (loc':=lS la) inv rk.tab rfl (fun _ _ e=>zS e) (fun _ _ e=>zS e) (inv.rep.loc.mono (W.cp []))
 replace R:=(gx ..)▸R
 have ok:T.Ok (G.at dA (ec fun _=>r.q)) 35 (.fn aA) (W.ext []):=inv.BO (qs:=[]) hn _
 refine aa hfi ?_
 show wpAny _ _ (do callWith _ (<-eval (.Name (S "enumerate") _) T.env) [] (backTo _ (starEach [_] T.env)) (backToKw _ (keywordEach [] T.env))) _ _ _
 refine wpAny_bind ((oe _ (.fn aA)).1 T _ m _ s (.ty .enumerate) _ _ E ok R (by refine aa (show (G.at dA (ec fun _=>r.q)).gl=aT from tG.gl) ?_;exact H5 _ _ _) fun W₁ aq ar bp ag ak aK=>?_)
 have aK:bp= .type "enumerate" :=aK
 subst aK
 refine callWith_of (P:=fun _=>True) rfl (fun h _=>⟨.machine, .inr (.inl rfl),Looks.of_pure rfl⟩) (nh rfl rfl (wpAny_items_cons (wpAny_Subscript_list_slice ?_) rfl))
 refine (oe _ (.fn aA)).1 T W₁ m _ {s with heap:=aq,toks:=ar} (.k la) _ _ E (ok.mono ag) ak (by refine aa (show (G.at dA (ec fun _=>r.q)).gl=aT from tG.gl) (aa bz ?_);exact Bg _ la _ _) fun ae aJ aG ef ax az aV=>?_
 have aV:ef= .ref la:=aV
 subst aV
 refine aa (evalPart_none ..) (aa (evalPart_some ..) ?_)
 refine wpAny_pure (wpAny_Constant_int ⟨la,vs.toArray,none,some 8,rfl,hl.at fun o e=>az.fr.keep _ _ e,by refine aa List.size_toArray (aa sizeLine_eq ?_);omega, .none, .int 8 _,?_⟩)
 refine wpAny_items_nil (kwAll_nil ⟨trivial,?_⟩)
 generalize hsl:({cls:= .type "slice",data:= .fields #[.none, .int 8 aG, .none]}:Obj)=so
 have hso:so.isFreed=false:=by refine aa (Eq.symm hsl) ?_;rfl
 have F1:=az.fr.push so
 have N1:=az.nw.push az.fr so hso
 generalize sU:({cls:= .type "list",data:= .seq (slicePick vs.toArray none (some 8) none)}:Obj)=lo
 have hlf:lo.isFreed=false:=by refine aa (Eq.symm sU) ?_;rfl
 have F2:=F1.push lo
 have N2:=N1.push F1 lo hlf
 have hD:((aJ.push so).push lo).get? (aJ.objs.size+1)=some lo:=by have:=(N2 _ cg).1;replace this:=(Heap.size_push ..)▸this;exact this
 have Va:aJ.objs.size+1≠T.L/\T.h₀.get? (aJ.objs.size+1)=none:=by have:=(N2 _ cg).2;replace this:=(Heap.size_push ..)▸this;exact this
 have zd:lo.data= .seq (vs.take 8).toArray 0:=by
  exact aa (Eq.symm sU) (aa (Eq.symm (Pc vs)) rfl)
 have zc:lo.cls= .type "list" :=by exact aa (Eq.symm sU) rfl
 refine call_enumerate_list (items:=(vs.take 8).toArray) ⟨lo,hD,zc,0,zd⟩ fun h' hE hI AW hk=>?_
 refine wpAny_pyIter_enum hE ?_
 have hN:((aJ.push so).push lo).objs.size=aJ.objs.size+2:=by exact aa (Heap.size_push ..) (aa (Heap.size_push ..) rfl)
 simp only [hN] at hE hI AW hk ⊢
 have F':Fr T.h₀ T.L h' m:=F2.keeps hk
 refine aU (Inv.CY (P:=dA) (loc':=lS la) inv rk.tab.cls rfl (ag.trans ax) az fun x v e=>⟨v,e, .inl ⟨rfl,pk (by kernel_rfl:((lS la).all fun p=>cJ 47 p.2)=true) _ (aO e)⟩⟩) fun W' bc=>?_
 have jL:∀p∈W'.news T.fz,p.1<aJ.objs.size:=fun p hp=>Heap.lt_size (bc.rep.nw p hp).1
 have hh0:∀N,aJ.objs.size<=N->T.h₀.get? N=none:=fun N hN=>by
  generalize q:T.h₀.get? N=bZ;induction bZ with
  |none=>rfl
  |some o=>exact absurd (Nat.lt_of_lt_of_le (Heap.lt_size (az.fr.keep _ _ q)) hN) (Nat.lt_irrefl _)
 have hL:T.L<aJ.objs.size:=az.fr.ns.lt
 exact post (aJ.objs.size+1) W' h' _ lo (hk _ _ hD) zc zd Va.1 Va.2 (fun p hp=>Nat.lt_succ_of_lt (jL p hp)) (Nat.lt_succ_of_lt hL) hE hI (hh0 _ (by omega)) (hh0 _ (by omega)) (bc.grow F' fun p hp=>hk _ _ (Heap.get?_push_of_some _ (Heap.get?_push_of_some _ (bc.rep.nw p hp).1)))
end
noncomputable def EM:Expr:= .Tuple [.Name (S "i") (gD (dR (qE BX) 0)), .Name (S "n") (gD (dR (qE BX) 1))] (Kg BX) (gD BX)
theorem H3:jv= .For EM (iZ jv) gY [] (EN jv):=by kernel_rfl
theorem Nr(c:Bool)(subs:List String)(i v:Int):n8 (den dA (fun _ _ _ _=>none) (fM (.fn aA) (S "i"))).asg (n8 (den dA (fun _ _ _ _=>none) (fM (.fn aA) (S "n"))).asg xZ) [.int i, .int v] cb ⟨bC [],Mem.of (br c subs),57⟩=some ⟨b8 (code (S "n")) (.int v) (b8 (code (S "i")) (.int i) (bC [])),Mem.of (br c subs),57⟩:=by kernel_rfl
theorem L2(h:a<=d):a≠d+1/\a≠d+2:=by omega
theorem iG(h:(l.all fun p=>cJ 47 p.2)=true)(e:ah x l=some v):cJ 47 v=true:=pk h _ (aO e)
section
variable {vs:List Value}
theorem Cj{ad:Addr}{Q:Unit->Shared->Prop}(tG:eb G)(bz:T.cx=cb)(hn:35<=n)(inv:Inv G T n aA r c m s.heap (bC []) W)(hx:∃t,x= .int v t)(ht:IsTup s.heap ad #[.int i t,x])
  (post:∀W' m' h' tk,Inv G T n aA r c m' h' (bC [] ++ [f_ "i" (.int i),f_ "n" (.int v)]) W'->Q () {s with heap:=h',toks:=tk}):wpAny (model G.prog G.w) T.A (assign EM T.env (.ref ad)) Q E s:=by
 have rk:aX r (fun _=>r.q) dA:=hQ
 have R:=cF.enter (ex:=[]) (xs:=[]) (qs:=[]) (loc':=bC []) inv rk.tab rfl (fun _ _ e=>zS e) (fun _ _ e=>zS e) (inv.rep.loc.mono (W.cp []))
 replace R:=(gx ..)▸R
 have ok:T.Ok (G.at dA (ec fun _=>r.q)) 35 (.fn aA) (W.ext []):=inv.BO (qs:=[]) hn _
 refine rV (G:=G.at dA (ec fun _=>r.q)) (s:=s) (xs:=[.int i, .int v]) (vs:=[.int i t,x]) (oB rfl (jH (S "i") _ (fun _ _ _ _=>none)) (oB rfl (jH (S "n") _ (fun _ _ _ _=>none)) yv)) ok R ⟨⟨t,rfl⟩,hx,trivial⟩ ht (by refine aa bz ?_;exact Nr c r.x.l i v) fun W₁ m₁ aq ar _ ag ak _=>?_
 have hz:(bC [] ++ [f_ "i" (.int i),f_ "n" (.int v)]).map (fun p=>ah p.1 (b8 (code (S "n")) (.int v) (b8 (code (S "i")) (.int i) (bC []))))=(bC [] ++ [f_ "i" (.int i),f_ "n" (.int v)]).map fun p=>some p.2:=by kernel_rfl
 refine aU (Inv.CY (P:=dA) (loc':=bC [] ++ [f_ "i" (.int i),f_ "n" (.int v)]) inv rk.tab.cls rfl ag ak fun y a e=>⟨a,aw hz (y,a) (aO e), .inl ⟨rfl,iG (by kernel_rfl) e⟩⟩) fun ae bc=>?_
 exact post ae m₁ aq ar bc
theorem AG(tG:eb G)(bz:T.cx=cb)(hn:36<=n)(iB:T.outer=[])(hb:T.base=T.h₀)(inv:Inv G T (n+1) aA r c m s.heap (lS la) W)(hc:c=false->FU r)(hl:T.h₀.IsList la vs.toArray)(hv:vs.length<=900)(hint:∀x∈vs,∃i t,x= .int i t)
  (post:∀r' c' ae m' h' tk,(c'=false->FU r')->Inv G T (n+1) aA r' c' m' h' (bC []) ae->Q .next {s with heap:=h',toks:=tk}):wpAny (model G.prog G.w) T.A (exec jv T.env) Q E s:=by
 refine aa H3 ?_
 refine wpAny_For (Bk tG bz (by omega) inv hl hv fun D W' h' tk lo hD dI hd N7 hD0 hnw Va hE hI hN0 hN1 bc=>?_) fun _=>rfl
 have bJ:Inv G (T.aD [(D,lo)]) (n+1) aA r c m h' (bC []) W':=(bc.aD (l:=[(D,lo)]) (fun p hp=>by refine aa (dU hp) ?_;exact ⟨hD,N7,hD0⟩) (fun p hp q hq=>by refine aa (dU hq) ?_;exact Nat.ne_of_lt (hnw p hp)) (by simp)).weak (by kernel_rfl)
 have agn:(vs.take 8).toArray.size<=8:=by refine aa List.size_toArray (aa List.length_take ?_);omega
 have hle:∀p∈W'.news (T.aD [(D,lo)]).fz,p.1<=D:=fun p hp=>by
  rcases List.mem_append.mp ((nW W' [(D,lo)] T.fz).mem_iff.mp hp) with hp | hp
  ·refine aa (dU hp) ?_;exact Nat.le_refl _
  ·exact Nat.le_of_lt (hnw p hp)
 have KT:=KTurns.ofWalksU (elts:=[.Name (S "i") (gD (dR (qE BX) 0)), .Name (S "n") (gD (dR (qE BX) 1))]) (k:=Kg BX) (pos:=gD BX) (WalksT.enumerate (prog:=G.prog) (w:=G.w) (A:=T.A) inv.gH.gL.hh (D+2) (D+1) D (Ne.symm (L2 (Nat.le_refl (D+1))).1) (L2 (Nat.le_refl D)).2 (L2 (Nat.le_refl D)).1 (vs.take 8).toArray).toU
 refine yI (G:=G.at aR o6) (T:=T.aD [(D,lo)]) (s:={s with heap:=h',toks:=tk}) KT bJ.rep (by simp) (fun b qr=>?_) (fun qr=>?_) (fun p hp qr=>?_) (fun b qr=>?_) ⟨⟨_,hE⟩,hI,⟨lo,hD,dI,0,hd⟩⟩ (fun i h st=>?_) (fun i W σ=>∃r c,(c=false->FU r)/\ye G (T.aD [(D,lo)]) (n+1) r c (bC []) W σ) ⟨r,c,hc,bJ.core (T:=T.aD [(D,lo)]) (l:=[])⟩ (fun i v W₁ m₁ aE aq ar own _ hi hP hJ ak=>?_) (fun W₁ m₁ aE aq ar ak hJ=>?_)
 ·rcases gn qr with rfl | qr
  ·exact hN1
  ·refine aa (dU qr) ?_;exact hN0
 ·rcases gn qr with e | qr
  ·exact (L2 (Nat.le_of_lt Va)).2 e
  ·exact (L2 (Nat.le_of_lt Va)).1 (dU qr)
 ·have:=hle p hp
  rcases gn qr with e | qr
  ·exact (L2 this).2 e
  ·exact (L2 this).1 (dU qr)
 ·rcases gn qr with rfl | qr
  ·exact .inl (by simp)
  ·rcases gn qr with rfl | qr
   ·exact .inl (by simp)
   ·refine aa (dU qr) ?_;exact .inr (.inl ⟨lo,sJ _ cg⟩)
 ·refine fK st fun b7 cw _=>?_;clear st;obtain ⟨old,he⟩:=b7;obtain ⟨oi,hoi,hic,_⟩:=cw
  have he':∃oe:Obj,h.get? (D+2)=some oe:=⟨_,he⟩
  refine aU he' fun oe h1=>?_;clear he'
  refine ⟨[(D+2,oe),(D+1,oi)],rfl,fun p hp=>?_⟩
  rcases gn hp with rfl | hp
  ·exact h1
  ·refine aa (dU hp) ?_;exact hoi
 ·refine iJ hJ fun aK c₁ _ q=>?_;clear hJ
  have cq:Inv G ((T.aD [(D,lo)]).aD own) (n+1) aA aK c₁ m₁ aq (bC []) W₁:=q.inv ak
  refine dM hP fun ad vals dC dk hT=>?_;clear hP;subst dC;obtain ⟨t,x,hx,rfl⟩:=dk
  obtain ⟨v,hxv⟩:∃v,∃t,x= .int v t:=by
   have HR:(vs.take 8)[i]?=some x:=by simpa using hx
   have hm:=kW HR
   exact hint x (List.mem_of_mem_take hm)
  have hi8:(0:Int)<=(i:Int)/\(i:Int)<8:=⟨Int.natCast_nonneg i,by omega⟩
  show wpAny (model G.prog G.w) T.A (assign EM T.env _) _ _ _
  refine Cj (T:=(T.aD [(D,lo)]).aD own) (s:={s with heap:=aq,toks:=ar}) (i:=i) (v:=v) (t:=t) tG bz (by omega) cq hxv hT fun ae m₂ aJ aG dh=>?_
  show wpAny (model G.prog G.w) T.A (execs gY T.env) _ _ _
  refine Gz (T:=(T.aD [(D,lo)]).aD own) (s:={s with heap:=aJ,toks:=aG}) tG bz hn iB hb hi8 dh fun eC bu gT bq aQ kK=>?_
  have gp:Inv G ((T.aD [(D,lo)]).aD own) (n+1) aA eC true gT bq (bC []) bu:=kK.weak (by kernel_rfl)
  exact ⟨bu,gT,bq,aQ,_,rfl,gp.rep,eC,true,fun e=>(zF e),gp.core⟩
 ·refine iJ hJ fun aK c₁ h₀ q=>?_;clear hJ
  exact post aK c₁ W₁ m₁ aq ar h₀ (q.UL ak).yi
end
noncomputable def yR(x:R AV):Option (Option (List AV)×Nat×Option AO×Fd×aL):=Option.map (fun z=>(vd dA z.2.mem z.1,z.2.nd,(hide z.2.mem z.1).get 0,fdOf bl (aB z.2 (hide z.2.mem z.1)),z.2.loc)) x
noncomputable def ve(it:Expr)(c:Bool)(subs:List String)(loc:aL):R AV:=(den dA (cH dA 30) (cE aT (.fn aA) it)).ev cb ⟨loc,Mem.of (br c subs),57⟩
noncomputable def yS(xs:List AV)(c:Bool)(subs:List String)(loc:aL):Option (Option (List AV)×Nat×Option AO×Fd×aL):=some (some xs,57,some (bif c then .cell (.d 56) else .cy),gO [] bl c subs (same.map some),loc)
noncomputable def Om(T dm:At):Prop:=∃l,dm=T.aD l
theorem Om.trans(a:Om T dm)(b:Om dm Wi):Om T Wi:=by
 refine aU a fun l b7=>?_;clear a;subst b7
 refine aU b fun k cw=>?_;clear b;subst cw
 exact ⟨k++l,by show ({T with fz:=k++(l++T.fz)}:At)={T with fz:=(k++l)++T.fz};exact aa (eP ..) rfl⟩
theorem Hk(h:cJ 0 a=true)(q:VR W a v):VR W' a v:=by
 induction a with
 |o j=>exact absurd (zd h) (Nat.not_succ_le_zero j)
 |d j=>
  have h:(Nat.ble 57 j&&Nat.blt j (57+0))=true:=h
  replace h:=(Bool.and_eq_true ..)▸h
  exact absurd (zd h.2) (Nat.not_le.mpr (Nat.lt_succ_of_le (zd h.1)))
 |_=>exact q
section
theorem mQ(tG:eb G)(bz:T.cx=cb)(hn:35<=n)(inv:Inv G T n aA r c m s.heap loc W)(m3:(loc.all fun p=>cJ 47 p.2)=true)(sT:bT it=false)(hx:aA.lookup x=some .local)
  (run:yR (ve it c r.x.l loc)=yS xs c r.x.l loc) (hxs:xs.all (cJ 0)=true)
  (turn:∀dm a W' m' h' tk iI j7,Om T dm->a∈xs->Inv G dm n aA r c m' h' (b8 (code x) a loc) W'->(∀jR xp jM Xw,Inv G dm n aA r c xp jM loc jR->iI .next {s with heap:=jM,toks:=Xw})->wpAny (model G.prog G.w) T.A (execs body T.env) iI j7 {s with heap:=h',toks:=tk})
  (post:∀W' m' h' tk,Inv G T n aA r c m' h' loc W'->Q .next {s with heap:=h',toks:=tk}):wpAny (model G.prog G.w) T.A (exec (.For (.Name x px) it body [] pos) T.env) Q E s:=by
 have rk:aX r (fun _=>r.q) dA:=hQ
 have ga:=rk.ga tG
 have io:=rk.io G
 have oe:=xd ga.gk ga.ca io (du ga io 30)
 have R:=cF.enter (ex:=[]) (xs:=[]) (qs:=[]) (loc':=loc) inv rk.tab rfl (fun _ _ e=>zS e) (fun _ _ e=>zS e) (inv.rep.loc.mono (W.cp []))
 replace R:=(gx ..)▸R
 have ok:T.Ok (G.at dA (ec fun _=>r.q)) 35 (.fn aA) (W.ext []):=inv.BO (qs:=[]) hn _
 generalize hr:ve it c r.x.l loc=bZ;induction bZ with
 |none=>replace run:=hr▸run;exact zS run
 |some z=>
 obtain ⟨v,σ⟩:=z
 replace run:=hr▸run
 have run:=aH run
 replace run:=(Prod.mk.injEq ..)▸run;replace run:=(Prod.mk.injEq ..)▸run;replace run:=(Prod.mk.injEq ..)▸run;replace run:=(Prod.mk.injEq ..)▸run
 refine tI run fun e1 e2 e3 e4 e5=>?_;clear run
 refine wpAny_For ((oe it (.fn aA)).1 T _ m _ s v σ _ E ok R (by refine aa (show (G.at dA (ec fun _=>r.q)).gl=aT from tG.gl) (aa bz ?_);exact hr) fun W₁ aq ar bp ag ak aK=>?_) (lX sT T.env)
 refine SrcR.out (oq (s:={s with heap:=aq,toks:=ar}) ga.gk (ok.mono ag) ak aK e1) fun l ae oI fp P' Sp ax az S _=>?_
 refine S.it _ _ ?_
 have le:=ag.trans ax
 refine ay (kH (T:=T.aD l) (n:=n) (ex':=[]) (xs':=[]) (r':=r) (pi:=bl) (c':=c) (loc':=loc) rk.tab.cls az (fun k u hk e=>by
   obtain ⟨z,hz⟩:=le.gam
   have n3:W.gam.length=57:=inv.rep.n3
   rw [<-hz,List.getElem?_append_left (by show k<(W.gam++_).length;rw [List.length_append];omega)] at e
   have e:(W.gam ++ [])[k]?=some u:=e
   replace e:=(List.append_nil ..)▸e
   have:=inv.ie k u e
   unfold aW at this ⊢
   rw [if_pos hk] at this ⊢
   exact IsL.mono (fun p hp=>le.fx p hp) (fun _ _ q=>q) this) ((inv.gH.mono ((W.cp _).trans le)).aD l) inv.Bx rfl (fun _ _ e=>zS e) ⟨eG,gi,⟨Mine.same,e4,bH r _⟩,fun e=>⟨56,by replace e3:=e▸e3;exact e3,Nat.le_refl 56,rfl⟩,inv.ok,fun y a e=> .inl ⟨by have e5:σ.loc=loc:=e5;have q:=iG m3 e;refine aa (Lc q) ?_;show ah y σ.loc=_;refine aa e5 ?_;exact e,iG m3 e⟩⟩) fun bu bJ _=>?_
 have jL:∀p∈bu.news (T.aD l).fz,p.1<aq.objs.size:=fun p hp=>Heap.lt_size (bJ.rep.nw p hp).1
 have cq:=Inv.grow (h':=aq.push oI) bJ (bJ.rep.fr.push oI) fun p hp=>Heap.get?_push_of_some _ (bJ.rep.nw p hp).1
 refine xq (G:=G.at aR o6) (T:=T.aD l) (s:={s with heap:=aq.push oI,toks:=ar}) (KTurns.ofWalks S.walks fun i v s Q E st q=>S.go i (.Name x px) v s Q E st q) cq.rep (next_is_new ak.fr) (Nat.ne_of_lt ak.fr.ns.lt) (fun p hp=>Nat.ne_of_lt (jL p hp))
  (fun b hb=>(S.N6 b hb).imp_right (Or.imp_left fun ⟨o,h⟩=>⟨o,sJ _ h⟩)) S.ON S.io (fun i W σ=>ye G (T.aD l) n r c loc W σ) (cq.core (T:=T.aD l) (l:=[])) (fun i u kR uY Oo iX gK oJ hi hP hJ Rb=>?_) fun kR uY Oo iX gK Rb hJ=>post kR uY iX gK (hJ.UL Rb).yi
 refine ay (S.val i u hP) fun a ga' hu=>?_
 have ha:cJ 0 a=true:=pk hxs a (kW ga')
 have dh:Inv G ((T.aD l).aD [(aq.objs.size,oJ)]) n aA r c uY iX loc kR:=hJ.inv Rb
 have Re:=cF.enter (ex:=[]) (xs:=[]) (qs:=[]) (loc':=loc) dh rk.tab rfl (fun _ _ e=>zS e) (fun _ _ e=>zS e) (dh.rep.loc.mono (kR.cp []))
 replace Re:=(gx ..)▸Re
 have EB:(den dA (fun _ _ _ _=>none) (fM (.fn aA) x)).asg a ((T.aD l).aD [(aq.objs.size,oJ)]).cx ⟨loc,Mem.of (br c r.x.l),57⟩=some ⟨b8 (code x) a loc,Mem.of (br c r.x.l),57⟩:=by
  have:fM (.fn aA) x= .tn (code x):=by
   unfold fM
   dsimp only
   exact aa (cM ..) (aa (hx ..) rfl)
  refine aa this ?_
  show (Option.rec (some _) (fun _=>none) T.cx.comp:Option St)=_
  refine aa bz ?_;rfl
 show wpAny (model G.prog G.w) T.A (assign (.Name x px) T.env u) _ _ _
 refine jH (G:=G.at dA (ec fun _=>r.q)) (n:=35) (b:= .fn aA) x px (fun _ _ _ _=>none) ((T.aD l).aD [(aq.objs.size,oJ)]) _ uY _ {s with heap:=iX,toks:=gK} a u _ _ _ (cF.BO (s:={s with heap:=iX,toks:=gK}) (qs:=[]) dh hn _) Re (Hk ha hu) EB fun i5 Ma qp oh _ D8 gJ _=>?_
 refine aU (Inv.CY (P:=dA) (loc':=b8 (code x) a loc) dh rk.tab.cls rfl D8 gJ fun y b e=>⟨b,e, .inl ⟨rfl,by
  replace e:=(cU ..)▸e
  split at e
  ·obtain rfl:=aH e;exact hR (Nat.zero_le _) ha
  ·exact iG m3 e⟩⟩) fun qA gp=>?_
 exact turn ((T.aD l).aD [(aq.objs.size,oJ)]) a qA Ma qp oh _ _ (Om.trans ⟨l,rfl⟩ ⟨_,rfl⟩) (kW ga') gp fun Iv L6 Ep tZ kJ=>⟨Iv,L6,Ep,tZ,_,rfl,kJ.rep,kJ.core⟩
end
noncomputable def f9:Stmt:=bO j3 9
noncomputable def Jn:Stmt:=bO (bodyOf f9) 0
noncomputable def NY:Stmt:=bO (bodyOf Jn) 0
noncomputable def Gf:Stmt:=bO j3 10
noncomputable def AU:Stmt:=bO (bodyOf Gf) 0
noncomputable def VK:Expr:=HB (bw NY)
noncomputable def Fu:Expr:=HB (bw AU)
theorem vH:(f9= .For (.Name (S "name") (gD (H4 f9))) (iZ f9) [Jn] [] (EN f9)/\Jn= .For (.Name (S "log") (gD (H4 Jn))) (iZ Jn) [NY] [] (EN Jn)/\NY= .If (.UnaryOp .Not (kj VK) (Gw (bw NY))) (bodyOf NY) [] (posOf NY))/\Gf= .For (.Name (S "name") (gD (H4 Gf))) (iZ Gf) [AU] [] (EN Gf)/\AU= .If (.UnaryOp .Not (kj Fu) (Gw (bw AU))) (bodyOf AU) [] (posOf AU):=by
 refine ⟨⟨?_,?_,?_⟩,?_,?_⟩<;>kernel_rfl
noncomputable def Xp:List String:=["U", "V"]
noncomputable def I4(nm:String):aL:=b8 (code (S "name")) (sA nm) (bC [])
noncomputable def lLg(nm:String)(b:Bool):aL:=b8 (code (S "log")) (.bool b) (I4 nm)
theorem K2:∀subs,(bools.map fun c=>(yR (ve (iZ f9) c subs (bC [])),Xp.map fun nm=>(yR (ve (iZ Jn) c subs (I4 nm)),bools.map fun b=>(den dA (cH dA 30) (gz aT (.fn aA) (bD VK))).sX cb ⟨lLg nm b,Mem.of (br c subs),57⟩)))=bools.map fun c=>(yS [sA "U",sA "V"] c subs (bC []),Xp.map fun nm=>(yS [.bool false, .bool true] c subs (I4 nm),bools.map fun b=>some (FD nm b,⟨lLg nm b,Mem.of (br c subs),57⟩))):=fun subs=>by kernel_rfl
theorem Hg:∀subs,(bools.map fun c=>(yR (ve (iZ Gf) c subs (bC [])),mq.map fun k=>(den dA (cH dA 30) (gz aT (.fn aA) (bD Fu))).sX cb ⟨I4 k.2,Mem.of (br c subs),57⟩))=bools.map fun c=>(yS (mq.map fun k=>sA k.2) c subs (bC []),mq.map fun k=>some (Pa k.2,⟨I4 k.2,Mem.of (br c subs),57⟩)):=fun subs=>by kernel_rfl
theorem Jo:(bT (iZ f9)||bT (iZ Jn)||bT (iZ Gf)||gU (bK VK)||gU (bK Fu) || !aZ (bD VK) || !aZ (bD Fu))=false:=by kernel_rfl
theorem xm:aA.lookup (S "name")=some .local/\aA.lookup (S "log")=some .local:=by
 refine ⟨?_,?_⟩<;>kernel_rfl
theorem Jp(P:bA):(den P (cH P 30) (cE aT (.fn aA) (bK VK))).ev=BY (.k 684)/\(den P (cH P 30) (cE aT (.fn aA) (bK Fu))).ev=BY (.k 691):=by
 refine ⟨?_,?_⟩<;>kernel_rfl
section
theorem yZ(tG:eb G)(bz:T.cx=cb)(hn:35<=n)(inv:Inv G T n aA r c m s.heap loc W)(m3:(loc.all fun p=>cJ 47 p.2)=true)(hk:keepIn G.K (.ref a)=true)(ha:gU (bK e)=false)(hs:aZ (bD e)=true)
  (Vf:∀P,(den P (cH P 30) (cE aT (.fn aA) (bK e))).ev=BY (.k a)) (run:(den dA (cH dA 30) (gz aT (.fn aA) (bD e))).sX cb ⟨loc,Mem.of (br c r.x.l),57⟩=some (vs,⟨loc,Mem.of (br c r.x.l),57⟩)) (hv:vs.all (cJ 47)=true)
  (post:∀ae h' tk us,Inv G T n aA r c m h' loc ae->bE ae vs us->wpAny (model G.prog G.w) T.A (call (.ref a) us []) (fun v s'=>v= .bool true/\∀tk,Q .next {s' with toks:=tk}) E {s with heap:=h',toks:=tk}):wpAny (model G.prog G.w) T.A (execs [.If (.UnaryOp .Not (kj e) p1) B [] p2] T.env) Q E s:=by
 have rk:aX r (fun _=>r.q) dA:=hQ
 have ga:=rk.ga tG
 have io:=rk.io G
 have R:=cF.enter (ex:=[]) (xs:=[]) (qs:=[]) (loc':=loc) inv rk.tab rfl (fun _ _ e=>zS e) (fun _ _ e=>zS e) (inv.rep.loc.mono (W.cp []))
 replace R:=(gx ..)▸R
 have ok:T.Ok (G.at dA (ec fun _=>r.q)) 35 (.fn aA) (W.ext []):=inv.BO (qs:=[]) hn _
 have oe:=xd ga.gk ga.ca io (du ga io 30)
 have arm:eval (kj e) T.env=(do callWith (kI e) (<-eval (bK e) T.env) [] (backTo (kI e) (starEach (bD e) T.env)) (backToKw (kI e) (keywordEach [] T.env))):=by
  unfold kj
  cases hf:bK e<;>first | rfl | (replace ha:=hf▸ha;exact zF ha)
 refine wpAny_execs_cons (wpAny_If (wpAny_isTrue_Not (wpAny_isTrue_value ?_ rfl)))
 refine aa arm ?_
 refine wpAny_bind ((oe (bK e) (.fn aA)).1 T _ m _ s (.k a) _ _ E ok R (by show (den dA (cH dA 30) (cE G.gl (.fn aA) (bK e))).ev _ _=_;refine aa (tG.gl ..) (aa (Vf ..) ?_);rfl) fun W₁ aq ar bp ag ak aK=>?_)
 have aK:bp= .ref a:=aK
 subst aK
 refine d6 (G:=G.at dA (ec fun _=>r.q)) (s:={s with heap:=aq,toks:=ar}) (kA fun e _=>oe e _).1 hs nJ rfl (fun h X=>keeps_K hk h X) (ok.mono ag) ak (by refine aa (show (G.at dA (ec fun _=>r.q)).gl=aT from tG.gl) (aa bz ?_);exact run) rfl fun ae aJ aG us kvs ax az aV eC=>?_
 cases eC.isNil
 refine ay (Inv.CX (P:=dA) (loc':=loc) inv rk.tab.cls rfl (ag.trans ax) az fun y b e=>⟨b,e, .inl ⟨rfl,iG m3 e⟩⟩) fun bu bF hr=>?_
 refine wpAny_mono (post bu aJ aG us bF (tu (I:=ec fun _=>r.q) az inv.bg (ag.trans ax).bg hr (jA hv) aV)) (fun v s' h=>?_) fun _ _ h=>h
 obtain ⟨rfl,h⟩:=h
 exact wpAny_truthy_bool (wpAny_execs_nil (wpAny_execs_nil (h _)))
theorem UA(tG:eb G)(bz:T.cx=cb)(hn:35<=n)(inv:Inv G T n aA r c m s.heap (bC []) W)(hc:c=false->FU r)
  (post:∀W' m' h' tk,Inv G T n aA r c m' h' (bC []) W'->Q .next {s with heap:=h',toks:=tk}):wpAny (model G.prog G.w) T.A (exec f9 T.env) Q E s:=by
 have tM:=Jo
 simp only [Bool.or_eq_false_iff,Bool.not_eq_false'] at tM
 refine aM tM fun cw s2=>?_;clear tM;obtain ⟨⟨⟨⟨⟨i1,i2⟩,i3⟩,a1⟩,a2⟩,s1⟩:=cw
 refine aM (Prod.mk.inj (aw (K2 r.x.l) c (ft c))) fun K8 K7=>?_
 refine aa vH.1.1 ?_
 refine mQ tG bz hn inv (by kernel_rfl) i1 xm.1 K8 (by kernel_rfl) (fun dm a W₁ m₁ aq ar iI j7 hT ha ff k₁=>?_) post
 refine aU hT fun l dC=>?_;clear hT;subst dC
 obtain ⟨nm,hu,rfl⟩:∃nm∈Xp,a=sA nm:=by
  rcases gn ha with rfl | ha
  ·exact ⟨"U",cg,rfl⟩
  ·exact ⟨"V",fw _ cg,dU ha⟩
 refine aM (Prod.mk.inj (aw K7 nm hu)) fun XO XN=>?_
 have Au:((I4 nm).all fun p=>cJ 47 p.2)=true:=by
  rcases gn hu with rfl | hu
  ·kernel_rfl
  ·cases dU hu;kernel_rfl
 have O8:∀b,((lLg nm b).all fun p=>cJ 47 p.2)=true:=fun b=>by
  rcases gn hu with rfl | hu
  ·induction b<;>kernel_rfl
  ·cases dU hu;induction b<;>kernel_rfl
 refine wpAny_execs_cons ?_
 refine aa vH.1.2.1 ?_
 refine mQ (T:=T.aD l) (s:={s with heap:=aq,toks:=ar}) tG bz hn ff Au i2 xm.2 XO (by kernel_rfl) (fun Wi a ae m₂ aJ aG adw adC hT ha bc k₂=>?_) fun ae m₂ aJ aG bc=>?_
 ·refine aU hT fun Uy dk=>?_;clear hT;subst dk
  obtain ⟨b,rfl⟩:∃b,a= .bool b:=by
   rcases gn ha with rfl | ha
   ·exact ⟨_,rfl⟩
   ·exact ⟨_,dU ha⟩
  refine aa vH.1.2.2 ?_
  refine yZ (T:=(T.aD l).aD Uy) (s:={s with heap:=aJ,toks:=aG}) tG bz hn bc (O8 b) (jt tG xM) a1 s1 (fun P=>(Jp P).1) (aw XN b (ft b)) rfl fun bu bq aQ us bJ hus=>?_
  refine rC (T:=(T.aD l).aD Uy) (s:={s with heap:=bq,toks:=aQ}) tG bJ hc hn (fun x v e=>iG (O8 b) e) ((gn hu).imp id dU) hus fun ew cQ cz cq _=>⟨rfl,fun tk=>k₂ ew m₂ cQ tk (cq.weak ?_)⟩
  rcases gn hu with rfl | hu
  ·induction b<;>kernel_rfl
  ·cases dU hu;induction b<;>kernel_rfl
 ·refine wpAny_execs_nil (k₁ ae m₂ aJ aG (bc.weak ?_))
  rcases gn hu with rfl | hu
  ·kernel_rfl
  ·cases dU hu;kernel_rfl
theorem Mj(tG:eb G)(bz:T.cx=cb)(hn:37<=n)(iB:T.outer=[])(hb:T.base=T.h₀)(inv:Inv G T n aA r c m s.heap (bC []) W)(hc:c=false->FU r)
  (post:∀W' m' h' tk,Inv G T n aA r c m' h' (bC []) W'->Q .next {s with heap:=h',toks:=tk}):wpAny (model G.prog G.w) T.A (exec Gf T.env) Q E s:=by
 have tM:=Jo
 simp only [Bool.or_eq_false_iff,Bool.not_eq_false'] at tM
 refine aM tM fun eD s2=>?_;clear tM;obtain ⟨⟨⟨⟨⟨i1,i2⟩,i3⟩,a1⟩,a2⟩,s1⟩:=eD
 refine aM (Prod.mk.inj (aw (Hg r.x.l) c (ft c))) fun K8 K7=>?_
 have mr:35<=n:=by omega
 refine aa vH.2.1 ?_
 refine mQ tG bz mr inv (by kernel_rfl) i3 xm.1 K8 (by kernel_rfl) (fun dm a W₁ m₁ aq ar iI j7 hT ha ff k₁=>?_) post
 refine aU hT fun l fG=>?_;clear hT;subst fG
 obtain ⟨⟨k,nm⟩,hu,rfl⟩:=nS ha
 have Au:(mq.all fun p=>(I4 p.2).all fun p=>cJ 47 p.2)=true:=by kernel_rfl
 have Au:=pk Au _ hu
 have wk:(mq.map fun k=>(bC []).map fun p=>ah p.1 (I4 k.2))=mq.map fun _=>(bC []).map fun p=>some p.2:=by kernel_rfl
 refine aa vH.2.2 ?_
 refine yZ (T:=T.aD l) (s:={s with heap:=aq,toks:=ar}) tG bz mr ff Au (jt tG EO) a2 s2 (fun P=>(Jp P).2) (aw K7 _ hu) rfl fun bu bq aQ us bJ hus=>?_
 exact m4 (T:=T.aD l) (s:={s with heap:=bq,toks:=aQ}) tG bJ hc hn iB hb (fun x v e=>iG Au e) hu hus fun ew cQ cz cq _=>⟨rfl,fun tk=>k₁ ew m₁ cQ tk (cq.weak (aw wk _ hu))⟩
end
noncomputable def Ko:List (Nat×Tg):=[(14, .none),(15, .none),(16, .none),(7, .dict false)]
noncomputable def zZ(t:Tg)(hn:Bool):List (Nat×Tg):=[(14,t),(15, .dict hn),(16, .str true),(7, .dict hn)]
noncomputable def eg7:List (Bool×Nat×PV×Bool):=[(true,7, .dict .nil,true)]
noncomputable def WR:bA:={aR with tags:=bB 70 Ko,pT:=eg7,kn:=56,spec:=spT Ko}
noncomputable def pV1(t:Tg):bA:={aR with tags:=bB 70 (zZ t false),pT:=eg7,kn:=56,spec:=spT (zZ t false)}
noncomputable def pV2(t:Tg):bA:={aR with tags:=bB 70 (zZ t true),eqs:=[(15,7,true)],kn:=56,spec:=spT (zZ t true)}
noncomputable def OG:List Tg:=[.str true, .str false, .dict true]
noncomputable def Ap(P:bA)(c:Bool)(subs:List String):R AF:=(den P (cH P 30) (tO aT (.fn aA) (j3.drop 11))).qw cb ⟨bC [],Mem.of (br c subs),57⟩
noncomputable def M3(c:Bool)(subs:List String):=some ((AF.ret (.bool true)),57,gO [] bl c subs (same.map some))
theorem KS:∀subs,jn bl [] (Ap WR true subs)=i4 57 subs:=fun subs=>by kernel_rfl
theorem KO:outF (Ap WR false zW.l)=some (.ret (.bool true),57,gO [] bl false zW.l (same.map some)):=by kernel_rfl
theorem KQ:∀subs,(OG.map fun t=>jn bl [] (Ap (pV1 t) true subs))=OG.map fun _=>i4 57 subs:=fun subs=>by kernel_rfl
theorem KP:∀subs,(OG.map fun t=>jn bl [] (Ap (pV2 t) true subs))=OG.map fun _=>i4 57 subs:=fun subs=>by kernel_rfl
theorem val_eq(v:Int):jb (ku (some v)) (ku (some v)) true:=⟨by kernel_rfl,zd rfl,Eq.trans (b:=(v==v)&&true) (by kernel_rfl) (by refine aa (beq_self_eq_true ..) ?_;rfl)⟩
theorem yg:jb (.dict .nil) (.dict .nil) true:=⟨rfl,zd rfl,rfl⟩
theorem GC(h:a≠ .none):(gQ a).2∈OG:=by
 induction a with
 |none=>exact absurd rfl h
 |t x=>exact kW (i:=0) rfl
 |d x=>exact kW (i:=2) rfl
 |m x=>induction x<;>first | exact kW (i:=1) rfl | exact kW (i:=0) rfl
theorem Mf{a b c d:Tg}:∀p∈[(14,a),(15,b),(16,c),(7,d)],p.1<56:=all_cons (by show 14<56;omega) (all_cons (by show 15<56;omega) (all_cons (by show 16<56;omega) (all_cons (by show 7<56;omega) all_nil)))
section
theorem si(tG:eb G)(bz:T.cx=cb)(hn:35<=n)(inv:Inv G T n aA r c m s.heap (bC []) W)(rk:aX r J P)(hJ:J 56=r.q)(run:Ap P c r.x.l=some (.ret (.bool true),σ))(he:nI c σ r.x.l)
  (post:∀ae m' h' tk,Inv G T n aA r c m' h' [] ae->Q (.ret (.bool true)) {s with heap:=h',toks:=tk}):wpAny (model G.prog G.w) T.A (execs (j3.drop 11) T.env) Q E s:=by
 refine ng (J:=J) (P:=P) (r':=r) (ex:=[]) (ex':=[]) (xs:=[]) (xs':=[]) (qs:=[]) (pi:=bl) (c':=c) (loc':=[]) tG inv hn rk hJ Ay (fun _ _ e=>zS e) (inv.rep.loc.mono (W.cp [])) (by refine aa (tG.gl ..) (aa (bz ..) (aa (gx ..) ?_));exact run)
  rfl m7 ⟨eG,gi,⟨same,he.2,bH r J⟩,fun e=>⟨56,he.1 e,Nat.le_refl 56,hJ⟩,inv.ok,fun _ _ e=>zS e⟩ fun W₁ ae m' h' tk fv rf bF hr=>?_
 refine ay rf fun w b7 rw=>?_;clear rf;subst b7
 subst rw
 exact post ae m' h' tk bF
theorem HJ(tG:eb G)(bz:T.cx=cb)(hn:35<=n)(inv:Inv G T n aA r c m s.heap (bC []) W)(hc:c=false->FU r)
  (post:∀ae m' h' tk,Inv G T n aA r c m' h' [] ae->Q (.ret (.bool true)) {s with heap:=h',toks:=tk}):wpAny (model G.prog G.w) T.A (execs (j3.drop 11) T.env) Q E s:=by
 have pB:∀j,j<4->aW r (Jl [r.q]) (14+j)=r.l5 0 j:=fun j hj=>DB r (Jl [r.q]) (j:=j) hj (k:=0) (zd rfl)
 have pV:aW r (Jl [r.q]) 7=ku (r.val 0):=DA r _ (k:=0) (zd rfl)
 by_cases h0:r.res 0= .none
 ·have hv:r.val 0=none:=inv.ok.vn 0 h0
  have rk:aX r (Jl [r.q]) WR:=by
   have hl:∀p∈Ko,eQ p.2 (aW r (Jl [r.q]) p.1):=all_cons ((pB 0 (zd rfl)).trans (ik h0)) (all_cons ((pB 1 (zd rfl)).trans (ik h0)) (all_cons ((pB 2 (zd rfl)).trans (ik h0)) (all_cons ⟨.nil,by refine aa pV (aa hv ?_);rfl,rfl⟩ all_nil)))
   exact {tab:=⟨rfl,lM rfl hl,all_nil,all_nil,all_nil,all_nil,all_cons (show jb (.dict .nil) (aW r (Jl [r.q]) 7) true by refine aa pV (aa hv ?_);exact yg) all_nil⟩,fns:=rfl,kt:=rfl,spec:=rfl,kn:=rfl,ops:=gS rfl,eu:=bR rfl,tg:=mZ rfl Mf,eqs:=all_nil,jO:=all_nil,dg:=all_nil,ds:=all_nil}
  have run:∃σ,Ap WR c r.x.l=some (.ret (.bool true),σ)/\nI c σ r.x.l:=by
   induction c with
   |true=>exact ij (KS r.x.l)
   |false=>refine aa ((hc rfl).x) ?_;exact vM KO
  refine ay run fun σ e1 e2=>?_;clear run
  exact si tG bz hn inv rk rfl e1 e2 post
 obtain rfl:c=true:=by
  induction c with
  |true=>rfl
  |false=>exact absurd ((hc rfl).res 0) h0
 have b0:eQ (gQ (r.res 0)).2 (aW r (Jl [r.q]) 14):=by refine aa (pB 0 (zd rfl) ..) (aa (qz ..) ?_);exact Dl _
 have b2:eQ (.str true) (aW r (Jl [r.q]) 16):=by refine aa (pB 2 (zd rfl)) (aa (cR (j:=1) h0) ?_);exact ⟨_,rfl,jq⟩
 have b1:aW r (Jl [r.q]) 15=ku (r.val 0):=(pB 1 (zd rfl)).trans (cR (j:=0) h0)
 have m0:=GC h0
 generalize hv:r.val 0=bZ;induction bZ with
 |none=>
  replace b1:=hv▸b1;replace pV:=hv▸pV
  have rk:aX r (Jl [r.q]) (pV1 (gQ (r.res 0)).2):=by
   have hl:∀p∈zZ (gQ (r.res 0)).2 false,eQ p.2 (aW r (Jl [r.q]) p.1):=all_cons b0 (all_cons ⟨.nil,b1,rfl⟩ (all_cons b2 (all_cons ⟨.nil,pV,rfl⟩ all_nil)))
   exact {tab:=⟨rfl,lM rfl hl,all_nil,all_nil,all_nil,all_nil,all_cons (show jb (.dict .nil) (aW r (Jl [r.q]) 7) true by refine aa pV ?_;exact yg) all_nil⟩,fns:=rfl,kt:=rfl,spec:=rfl,kn:=rfl,ops:=gS rfl,eu:=bR rfl,tg:=mZ rfl Mf,eqs:=all_nil,jO:=all_nil,dg:=all_nil,ds:=all_nil}
  refine ay (ij (aw (KQ r.x.l) _ m0)) fun σ e1 e2=>?_
  exact si tG bz hn inv rk rfl e1 e2 post
 |some v=>
  replace b1:=hv▸b1;replace pV:=hv▸pV
  have rk:aX r (Jl [r.q]) (pV2 (gQ (r.res 0)).2):=by
   have hl:∀p∈zZ (gQ (r.res 0)).2 true,eQ p.2 (aW r (Jl [r.q]) p.1):=all_cons b0 (all_cons ⟨_,b1,rfl⟩ (all_cons b2 (all_cons ⟨_,pV,rfl⟩ all_nil)))
   exact {tab:=⟨rfl,lM rfl hl,all_cons (show jb (aW r (Jl [r.q]) 15) (aW r (Jl [r.q]) 7) true by refine aa b1 (aa pV ?_);exact val_eq v) all_nil,all_nil,all_nil,all_nil,all_nil⟩,fns:=rfl,kt:=rfl,spec:=rfl,kn:=rfl,ops:=gS rfl,eu:=bR rfl,tg:=mZ rfl Mf,eqs:=all_cons ⟨by show 15<56;omega,by show 7<56;omega⟩ all_nil,jO:=all_nil,dg:=all_nil,ds:=all_nil}
  refine ay (ij (aw (KP r.x.l) _ m0)) fun σ e1 e2=>?_
  exact si tG bz hn inv rk rfl e1 e2 post
end
noncomputable def r0:Rec:=⟨fun _=> .none,fun _=>none,none,none,zW,0⟩
theorem Pb:r0.Ok:=⟨⟨fun _=>rfl,fun _=>rfl⟩,⟨fun _=>rfl,fun _=>rfl⟩,fun _ _ e=>(zS e),fun _ _ e=>(zS e),fun _ _=>rfl,fun _ e=>(zS e),fun _ e=>(zS e)⟩
theorem Lh:FU r0:=⟨fun _=>rfl,rfl⟩
noncomputable def IP:List (Nat×bk×Option Nat):=Az.map fun x=>(code (S x),[],none)
noncomputable def Hq:List Nat:=[0,1,2,3,4,5,6,59,60,68,58,7,24,40,9,10,11,13,14,8,16,17,18,19,12,26,27,28,30,31,25,33,34,35,36,29,42,43,44,46,47,41,48,49,56,57,45]
noncomputable def XC:List PV:=List.replicate 7 .none++(List.replicate 7 (.dict .nil)++(List.replicate 28 .none++List.replicate 2 .none))
noncomputable def outI(la:Addr)(x:R AF):Option (AF×Nat×List (Option AV)×Option AO×Fd):=Option.map (fun z=>(z.1,z.2.nd,(lS la).map (fun p=>ah p.1 z.2.loc),z.2.mem.get 1,fdOf Hq (aB z.2 (z.2.mem.set 1 (.db IP))))) x
noncomputable def K5(la:Addr):R AF:=(den dA (cH dA 30) (tO aT (.fn aA) (j3.take 8))).qw cb ⟨[f_ "script" (.k la)],Mem.of [.cy],0⟩
theorem C4:∀la,outI la (K5 la)=some (.next,0,(lS la).map (fun p=>some (cV Hq p.2)),some (.dict []),lY Hq false zW.l (XC.map some)):=fun la=>by kernel_rfl
theorem sy:Hq.length=47/\Hq.Nodup/\IP.length<=100/\(IP.map (·.1)).Nodup:=by
 refine ⟨rfl,?_,?_,?_⟩<;>decide +kernel
theorem Rep.OT(R:Rep G h₀ L fz h m W σ)(hl:W.ls[i]?=some l)(ha:W.bg[i]?=some a)(ho:jD G.prog G.w G.P W a ao l):Rep G h₀ L fz h m W (aB σ (σ.mem.set i ao)):=by
 have e:W.upd i l=W:=by
  have:W.ls.set i l=W.ls:=by
   refine aU (jN hl) fun hi he=>?_
   refine aa (Eq.symm he) ?_;exact List.set_getElem_self hi
  show (⟨W.bg,W.ls.set i l,W.fx,W.gam,W.eta⟩:Wd)=W
  exact aa this rfl
 have:=R.rT (l':=l) (ao:=ao) R.fr (by refine aa e ?_;exact R.nw) hl ha rfl (by refine aa e ?_;exact ho)
 replace this:=e▸this
 exact this
theorem adf:mY prog w W [] IP []:=by
 have:∀l:List String,mY prog w W [] (l.map fun x=>(code (S x),[],none)) []:=fun l=>by
  induction l with
  |nil=>exact .nil
  |cons x r ih=>exact .cons (l:=[]) (r:=[]) ⟨rfl,rfl,fun _ e=>zS e⟩ ih
 exact this Az
theorem Ab(la:Addr):∃σ,K5 la=some (.next,σ)/\σ.nd=0/\((lS la).map (fun p=>ah p.1 σ.loc)=(lS la).map fun p=>some (cV Hq p.2))/\σ.mem.get 1=some (.dict [])/\fdOf Hq (aB σ (σ.mem.set 1 (.db IP)))=lY Hq false zW.l (XC.map some):=by
 have run:=C4 la
 generalize hx:K5 la=bZ;induction bZ with
 |none=>replace run:=hx▸run;exact zS run
 |some z=>
  obtain ⟨fl,σ⟩:=z
  replace run:=hx▸run
  have h:=aH run
  replace h:=(Prod.mk.injEq ..)▸h;replace h:=(Prod.mk.injEq ..)▸h;replace h:=(Prod.mk.injEq ..)▸h;replace h:=(Prod.mk.injEq ..)▸h
  refine tI h fun h1 h2 h3 h4 h5=>?_;clear h
  have h1:fl= .next:=h1
  subst h1
  exact ⟨σ,rfl,h2,h3,h4,h5⟩
section
theorem Eb(tG:eb G)(bz:T.cx=cb)(hn:35<=n)(gH:T.Ok G n (.fn aA) W)(R:T.Rep (G.at dA (ec fun _=>0)) s.heap m W ⟨[f_ "script" (.k la)],Mem.of [.cy],0⟩) (rest:List Stmt)
  (post:∀ae m' h' tk,Inv G T n aA r0 false m' h' (lS la) ae->wpAny (model G.prog G.w) T.A (execs rest T.env) Q E {s with heap:=h',toks:=tk}):wpAny (model G.prog G.w) T.A (execs (j3.take 8++rest) T.env) Q E s:=by
 have rk:aX r0 (fun _=>0) dA:=hQ
 have ga:=rk.ga tG
 have io:=rk.io G
 refine qC (Ab la) fun σ e1 e2 e3 e4 e5=>?_
 have go:∀l,Wn (G.at dA (ec fun _=>0)) 35 (.fn aA) (den dA (cH dA 30) (tO G.gl (.fn aA) l)).qw l:=fun l=>by
  induction l with
  |nil=>exact ym
  |cons st l ih=>exact t7 (IZ ga.gk ga.ca (xd ga.gk ga.ca io (du ga io 30)) st (.fn aA)) ih
 refine go (j3.take 8) rest T _ m _ s σ Q E ⟨gH.gL.of hn,gH.env⟩ R (by refine aa tG.gl (aa bz ?_);exact e1) fun W₁ m' h' tk le ak=>?_
 obtain ⟨a,l,x1,x2,ob,kvs,rfl,d1,lo,dr⟩:=ak.ob 1 _ e4
 cases dr
 have az:=ak.OT (ao:= .db IP) x2 x1 ⟨ob,[],[],rfl,d1,lo,sy.2.2.1,fun s h=>absurd rfl h,sy.2.2.2,adf⟩
 have hg:W₁.gam=[]:=List.eq_nil_of_length_eq_zero (ak.n3.trans e2)
 refine ay (kH (T:=T) (n:=n) (ex':=[]) (xs':=[]) (r:=r0) (r':=r0) (J:=fun _=>0) (pi:=Hq) (c':=false) (loc':=lS la) rk.tab.cls az (fun n v _ e=>by replace e:=hg▸e;exact zS e) (gH.mono le) (fun x i e=>by
   replace e:=bz▸e
   have e:ah x [(code (S "q"),0)]=some i:=e
   replace e:=(aI ..)▸e
   by_cases q:code (S "q")=x
   ·replace e:=(if_pos q)▸e;exact (aH e).symm
   ·replace e:=(if_neg q)▸e;exact zS e) rfl (fun _ _ e=>zS e) ⟨sy.1,sy.2.1,⟨XC,e5,rfl⟩,fun e=>(zT e),Pb,fun x v e=> .inl ⟨aw e3 (x,v) (aO e),pk (by kernel_rfl:((lS la).all fun p=>kB 47 0 p.2)=true) _ (aO e)⟩⟩) fun ae bc _=>?_
 exact post ae m' h' tk bc
end
theorem HK:j3=j3.take 8 ++ [jv,f9,Gf]++j3.drop 11:=by kernel_rfl
section
theorem Ed(tG:eb G)(bz:T.cx=cb)(hn:37<=n)(iB:T.outer=[])(hb:T.base=T.h₀)(gH:T.Ok G (n+1) (.fn aA) W){vs:List Value}(hl:T.h₀.IsList la vs.toArray)(hv:vs.length<=900)(hint:∀x∈vs,∃i t,x= .int i t)
  (R:T.Rep (G.at dA (ec fun _=>0)) s.heap m W ⟨[f_ "script" (.k la)],Mem.of [.cy],0⟩)
  (post:∀r c ae m' h' tk,Inv G T (n+1) aA r c m' h' [] ae->Q (.ret (.bool true)) {s with heap:=h',toks:=tk}):wpAny (model G.prog G.w) T.A (execs j3 T.env) Q E s:=by
 refine aa (HK ..) (aa (eP ..) ?_)
 refine Eb tG bz (by omega) gH R _ fun W₁ m₁ aq ar ff=>?_
 show wpAny _ _ (execs (jv::f9::Gf::j3.drop 11) _) _ _ _
 refine wpAny_execs_cons (AG (s:={s with heap:=aq,toks:=ar}) tG bz (AI hn rfl) iB hb ff (fun _=>Lh) hl hv hint fun r c ae m₂ aJ aG hc bc=>?_)
 refine wpAny_execs_cons (UA (s:={s with heap:=aJ,toks:=aG}) tG bz (by omega) bc hc fun bu gT bq aQ bJ=>?_)
 refine wpAny_execs_cons (Mj (s:={s with heap:=bq,toks:=aQ}) tG bz (by omega) iB hb bJ hc fun ew gm cQ cz cq=>?_)
 exact HJ (s:={s with heap:=cQ,toks:=cz}) tG bz (by omega) cq hc fun kR uY iX gK dh=>post r c kR uY iX gK dh
end
noncomputable def HY(w:PySem.World)(mean:ExcName->Option Value)(mg mb:Str->Option Value):Gx:=⟨Challenge.rw_lf0006_01.row.prog,w,H.K w.params,aR,aT,H.V,looseW H.V H.LO,mean,mg,mb,o6⟩
theorem EC(w:PySem.World)(mean:ExcName->Option Value)(mg mb:Str->Option Value):eb (HY w mean mg mb):=⟨⟨w.params,rfl⟩,rfl,rfl,rfl,rfl⟩
theorem z6{G:Gx}{ob:Obj}(F:Fr h₀ L aq m)(N:News h₀ L aq [(L+1,ob)])(Et:ob.data= .cell v)(hm:m (S "script")=some (.ref la)):
  Rep (G.at dA (ec fun _=>0)) h₀ L [] aq m ⟨[L+1],[[(L+1,ob)]],[],[],[]⟩ ⟨[f_ "script" (.k la)],Mem.of [.cy],0⟩:=by
 have rk:aX r0 (fun _=>0) dA:=hQ
 refine ⟨F,N,(by simp:[L+1].Nodup),Mem.of_ok _,rfl,rfl,rfl,fun i o e=>?_,fun x a e=>?_,?_⟩
 ·replace e:=(of_get ..)▸e
  match i,e with
  | 0,e=>have cw:=aH e;clear e;subst cw;exact ⟨L+1,_,rfl,rfl,ob,v,rfl,Et⟩
 ·have e:ah (code x) [(code (S "script"),AV.k la)]=some a:=e
  replace e:=(aI ..)▸e
  by_cases q:code (S "script")=code x
  ·replace e:=(if_pos q)▸e
   cases code_inj q
   have dC:=aH e;clear e;subst dC
   exact ⟨_,hm,rfl⟩
  ·replace e:=(if_neg q)▸e;exact zS e
 ·exact xR (pv:=aW r0 fun _=>0) (fun i v e=>zS e) rk.tab.ht rk.tab.he rk.tab.hc (fun i x q=>by
   have q:ec (fun _=>(0:Int)) i=some x:=q
   refine aM (eJ q) fun q1 q2=>?_
   unfold aW
   exact aa (if_neg (by omega)) (aa q2 rfl)) (fun p hp=>zM hp) (fun p hp=>zM hp) rk.tab.hg
theorem ry:cellsFrom 0 H.D.scope.names []=[(S "q",0)]/\H.D.scope.names=aA/\H.D.body=j3/\H.D.scope.names.lookup (S "script")=some .local:=by
 refine ⟨?_,rfl,rfl,?_⟩<;>kernel_rfl
theorem El(h:IntsAre vs ns):vs.length=ns.length/\∀x∈vs,∃i t,x= .int i t:=by
 induction h with
 |nil=>exact ⟨rfl,fun _ h=>zM h⟩
 |cons n t _ ih=>exact ⟨congrArg (· + 1) ih.1,fun x hx=>(gn hx).elim (fun e=>⟨n,t,e⟩) (ih.2 x)⟩
theorem Ec{w:PySem.World}{fa la:Addr}{vs:List Value}{R:Result->Shared->Prop}(T:Top H.V (looseW H.V H.LO) mean mg mb s.heap)(X:(H.K w.params).In s.heap)(ho:s.heap.get? fa=some o)
  (hd:o.data= .func (docDef H.D.name H.D.params H.D.body H.D.scope pm cd doc)) (Ez:s.heap.CodeRec cd H.D.name) (hl:s.heap.IsList la vs.toArray) (hv:vs.length<=900) (hint:∀x∈vs,∃i t,x= .int i t)
  (post:∀h' tk,(∀b o,s.heap.get? b=some o->h'.get? b=some o)->R (.ok (.ret (.bool true))) {s with heap:=h',toks:=tk}):codeAny (model Challenge.rw_lf0006_01.row.prog w) callerA (.call (.ref fa) ⟨[.ref la],[]⟩) R s:=by
 refine call_cellsN (binds:=[(S "script", .ref la)]) (by decide) ho hd T.nolimit Ez rfl (fun x hx=>?_) (by refine aa ry.1 ?_;simp) fun aq tk cells F N Y=>?_
 ·cases dU hx;exact .inl ry.2.2.2
 generalize HU:envOfC H.D.name H.D.scope s.heap.objs.size fa cd=env at F Y ⊢
 have cf:cellsFrom (s.heap.objs.size+1) H.D.scope.names []=[(S "q",s.heap.objs.size+1)]:=by kernel_rfl
 replace Y:=cf▸Y
 refine ay (CellsAre.one Y) fun ob b7 Et=>?_;subst b7
 have hm:bindL env.kindOf [(S "script", .ref la)] (fun _=>none) (S "script")=some (.ref la):=by refine aa (Eq.symm HU) ?_;kernel_rfl
 have R₀:=z6 (G:=HY w mean mg mb) F N Et hm
 let dm:At:=⟨callerA,callerA.deeper env,s.heap,[],s.heap,s.heap.objs.size,env,env,[],cb⟩
 have gH:dm.Ok (HY w mean mg mb) 41 (.fn aA) ⟨[s.heap.objs.size+1],[[(s.heap.objs.size+1,ob)]],[],[],[]⟩:=by
  refine ⟨⟨below_caller _,X,T,?_,by show env.frame=_;refine aa (Eq.symm HU) ?_;rfl,by show env.scope.kind=_;refine aa (Eq.symm HU) ?_;rfl,rfl,by show callerA.depth+1+3*41<=900;decide,by show callerA.units+3+20*41<=8000;decide⟩,rfl,rfl,H.D.name,H.D.scope,fa,cd,cellsFrom (s.heap.objs.size+1) H.D.scope.names [],HU.symm,rfl,rfl,?_,?_⟩
  ·rfl
  ·intro x i e
   have e:ah (code x) [(code (S "q"),0)]=some i:=e
   replace e:=(aI ..)▸e
   by_cases q:code (S "q")=code x
   ·replace e:=(if_pos q)▸e
    cases code_inj q
    have dk:=aH e;clear e;subst dk
    exact ⟨_,rfl,by refine aa cf ?_;rfl⟩
   ·replace e:=(if_neg q)▸e;exact zS e
  ·exact fun y e=>cellsFrom_some _ _ _ (.inl e)
 refine Ed (G:=HY w mean mg mb) (T:=dm) (n:=40) (s:={s with heap:=aq,toks:=tk}) (EC w mean mg mb) rfl (zd rfl) rfl rfl gH hl hv hint R₀ fun r c ae m' h' tK inv=>?_
 exact post h' tK inv.rep.fr.keep
theorem walk:WalkO H.V H.LO (XL H.V []) (kHook H.K H.KA H.qc).says Challenge.rw_lf0006_01.row.toRowW H.D [] (fun f vs=>PySem.call f vs):=by
 intro w afu t6 mg mb G Y fa o pm cd doc dV kV ho hd Ez hD hmg hg args vals as xF abM hrd hwl sU
 have KX:=kIn_of Y
 have T:=G.T
 wrow_args xF abM hrd hwl sU
 rename_i ns _ _ _ _ _ _ _ la vs _ hL _ _ _ hI _ hle _
 have he:=Dflts.none hD rfl
 subst he
 have he:=Dflts.noKw hD
 subst he
 refine aM (El hI) fun hlen hint=>?_
 refine enter_call ?_
 refine Ec T KX ho (fd_plain hd) Ez hL (by omega) hint fun h' tk keep=>?_
 refine ⟨.inl ⟨.bool true,ofPy (.bool true),[],rfl,?_,?_,?_,?_⟩,OldK.of_keep keep,rfl,by refine aa hg ?_;exact AllBare.empty⟩
 ·exact raisesW_false (by wrow_none_raised)
 ·exact readsW_of_reads (.bool _)
 ·exact postW_of (by wrow_shape) (by wtm_val) (by w_fin)
 ·exact unshared_nil
theorem lf0006:Challenge.rw_lf0006_01.Holds:=H.hd walk
end
end Mine
theorem PySem.Challenge.cw_lf0006_01_holds : PySem.Challenge.rw_lf0006_01.Holds :=
  Mine.lf0006
