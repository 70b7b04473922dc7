import PyProof.Rows.All
import Wide.All
import OpenK.AllK
import Wide.FinOn
import Lean
import PySem.Challenge.RW_ij0066_01
set_option Elab.async false
set_option maxRecDepth 100000
set_option linter.all false
set_option compiler.extract_closed false
set_option tactic.hygienic false
namespace Mine.Internal
variable {k hd:Int} {a D l d z C I J H S:Addr} {s s' s₀ s₁:Shared} {b:Bool} {n i m c W kk B N:Nat} {y yb:UInt64} {A:Around} {t u:Tok} {f:FV} {p pos np px g cp pi p1 p2 p3 O spos py fp F zp tp:Pos} {M:Model} {E Q:Value→Shared→Prop} {v cls tk f0:Value} {w w':Wd} {h h':Heap} {P:Params} {q xv yv name:Str} {env:Env} {pv res:PV} {e elt target iter:Expr} {es ifs:List Expr} {fd:FuncData} {xs fs ys gs:List FV} {vs items:Array Value} {pe' pc pe:PE} {body:List Stmt} {sc:Scope} {names:BC} {rows:List Row} {gens:List Comprehension} {o':Obj} {vals ts:List Value} {bs wo:List Int}
section
open PySem PySem.W PySem.Calls PyProof.Rows PySem.Spec PySem.Builtin.Math
theorem DY {p:Prop} [i:Decidable p] (h:decide p=true):p:=of_decide_eq_true h
def AD:=@wpAny_bind
def AJ:=@Nat.le_trans
def AM:=@wpAny_pure
def Ai:=@Option.some.inj
def BD:=@Heap.get?_push_size
def Bh:=@Nat.le_of_ble_eq_true
def Br:=@Heap.get?_push_of_some
end
def sy (k:Lean.Name) (l:Array Lean.Syntax):Lean.Syntax:=.node .none k l
def Dy:Lean.Syntax:=(sy `Lean.Parser.Tactic.tacticSeq #[(sy `Lean.Parser.Tactic.tacticSeq1Indented #[(sy `null #[(sy `Lean.Parser.Tactic.tacticRfl #[(.atom .none "rfl")])])])])
def Y7:Lean.Syntax:=(sy `Lean.Parser.Tactic.tacticSeq #[(sy `Lean.Parser.Tactic.tacticSeq1Indented #[(sy `null #[(sy `Lean.Parser.Tactic.withUnfoldingAll #[(.atom .none "with_unfolding_all"),(sy `Lean.Parser.Tactic.tacticSeq #[(sy `Lean.Parser.Tactic.tacticSeq1Indented #[(sy `null #[(sy `Lean.Parser.Tactic.tacticRfl #[(.atom .none "rfl")])])])])])])])])
def Me:Lean.Syntax:=(sy `Lean.Parser.Tactic.tacticSeq #[(sy `Lean.Parser.Tactic.tacticSeq1Indented #[(sy `null #[(sy `Lean.Parser.Tactic.intros #[(.atom .none "intros"),(sy `null #[])]),(.atom .none ";"),(sy `Lean.Parser.Tactic.tacticRfl #[(.atom .none "rfl")])])])])
def cF:Lean.Syntax:=(sy `Lean.Parser.Tactic.tacticSeq #[(sy `Lean.Parser.Tactic.tacticSeq1Indented #[(sy `null #[(sy `Lean.Parser.Tactic.intros #[(.atom .none "intros"),(sy `null #[])]),(.atom .none ";"),(sy `Lean.Parser.Tactic.withUnfoldingAll #[(.atom .none "with_unfolding_all"),(sy `Lean.Parser.Tactic.tacticSeq #[(sy `Lean.Parser.Tactic.tacticSeq1Indented #[(sy `null #[(sy `Lean.Parser.Tactic.tacticRfl #[(.atom .none "rfl")])])])])])])])])
def B8:Lean.Syntax:=(sy `Lean.Parser.Tactic.tacticSeq #[(sy `Lean.Parser.Tactic.tacticSeq1Indented #[(sy `null #[(sy `Lean.Parser.Tactic.decide #[(.atom .none "decide"),(sy `Lean.Parser.Tactic.optConfig #[(sy `null #[])])])])])])
def Nt:Lean.Syntax:=(sy `Lean.Parser.Tactic.tacticSeq #[(sy `Lean.Parser.Tactic.tacticSeq1Indented #[(sy `null #[(sy `Lean.Parser.Tactic.first #[(.atom .none "first"),(sy `null #[(sy `group #[(.atom .none "|"),(sy `Lean.Parser.Tactic.tacticSeq #[(sy `Lean.Parser.Tactic.tacticSeq1Indented #[(sy `null #[(sy `Lean.Parser.Tactic.assumption #[(.atom .none "assumption")])])])])]),(sy `group #[(.atom .none "|"),(sy `Lean.Parser.Tactic.tacticSeq #[(sy `Lean.Parser.Tactic.tacticSeq1Indented #[(sy `null #[(sy `Lean.Parser.Tactic.exact #[(.atom .none "exact"),(sy `Lean.Parser.Term.app #[(.ident .none "Nat.le_refl".toRawSubstring `Nat.le_refl []),(sy `null #[(sy `Lean.Parser.Term.hole #[(.atom .none "_")])])])])])])])]),(sy `group #[(.atom .none "|"),(sy `Lean.Parser.Tactic.tacticSeq #[(sy `Lean.Parser.Tactic.tacticSeq1Indented #[(sy `null #[(sy `Lean.Parser.Tactic.exact #[(.atom .none "exact"),(sy `Lean.Parser.Term.app #[(.ident .none "Nat.le_succ".toRawSubstring `Nat.le_succ []),(sy `null #[(sy `Lean.Parser.Term.hole #[(.atom .none "_")])])])])])])])]),(sy `group #[(.atom .none "|"),(sy `Lean.Parser.Tactic.tacticSeq #[(sy `Lean.Parser.Tactic.tacticSeq1Indented #[(sy `null #[(sy `Lean.Parser.Tactic.exact #[(.atom .none "exact"),(sy `Lean.Parser.Term.app #[(.ident .none "le2".toRawSubstring `le2 []),(sy `null #[(sy `Lean.Parser.Term.hole #[(.atom .none "_")])])])])])])])]),(sy `group #[(.atom .none "|"),(sy `Lean.Parser.Tactic.tacticSeq #[(sy `Lean.Parser.Tactic.tacticSeq1Indented #[(sy `null #[(sy `Lean.Parser.Tactic.exact #[(.atom .none "exact"),(sy `Lean.Parser.Term.app #[(.ident .none "Nat.zero_le".toRawSubstring `Nat.zero_le []),(sy `null #[(sy `Lean.Parser.Term.hole #[(.atom .none "_")])])])])])])])]),(sy `group #[(.atom .none "|"),(sy `Lean.Parser.Tactic.tacticSeq #[(sy `Lean.Parser.Tactic.tacticSeq1Indented #[(sy `null #[(sy `Lean.Parser.Tactic.omega #[(.atom .none "omega"),(sy `Lean.Parser.Tactic.optConfig #[(sy `null #[])])])])])])])])])])])])
section
open PySem PySem.W PyProof.Rows
noncomputable def BM (i:Nat):Stmt:=PySem.Challenge.pw_ij0066_01.main.body.getD i (.Pass default)
noncomputable def Yh (s:Stmt):List Stmt:=match s with | .ClassDef _ _ _ b _ _ _ _ _ _ _=>b | .While _ b _ _=>b | .For _ _ b _ _=>b | _=>[]
noncomputable def Y8 (s:Stmt):List Stmt:=Yh s
noncomputable def BQ (i j:Nat):Stmt:=(Y8 (BM i)).getD j (.Pass default)
noncomputable def VI (s:Stmt):Arguments:=(DefRec.ofStmt? s).elim default (·.params)
noncomputable def Ag (s:Stmt):List Stmt:=(DefRec.ofStmt? s).elim [] (·.body)
noncomputable def JS (s:Stmt):Scope:=(DefRec.ofStmt? s).elim default (·.scope)
noncomputable def Di (s:Stmt) (t:Tok):Value:=(docOf (Ag s)).elim .none fun d=>.str d t
noncomputable def fnAt (s:Stmt) (name qual:Str) (globals:Addr) (cl:List (Str×Addr)) (dV kV doc pm:Value) (an:Option Addr) (cd ct:Value) (bi:Addr):FuncData:=
 { name,qualname:=qual,params:=VI s,body:=.stmts (Ag s),scope:=JS s,globals,closure:=cl,defaults:=dV,kwdefaults:=kV,doc,pyModule:=pm,annotations:=an,code:=cd,closureTuple:=ct,builtins:=bi }
noncomputable def en (P:Params) (n:String) (t:Tok) (v:Value):DictEntry:=⟨PyData.keyHash P (Str.ofString n),.str (Str.ofString n) t,v⟩
noncomputable def oS (s:String) (t:Tok):Value:=.str (Str.ofString s) t
noncomputable def oI (n:Int):Value:=.int n 0
noncomputable def EY (s:Stmt) (n q:String) (cl:List (Str×Addr)) (dV kV doc:Value) (m:String) (mt:Tok) (cd:Addr):Obj:={ cls:=.type "function",data:=.func (fnAt s (Str.ofString n) (Str.ofString q) 3 cl dV kV doc (oS m mt) none (.ref cd) .none 0) }
noncomputable def GY (n q:String) (t:Tok) (l a b c:Int) (r:Addr) (x y z:Value) (e:Addr) (f:Int) (g:Tok):Obj:={ cls:=.type "code",data:=.fields [oS n t,oS q (t+1),oS "/claim/cut.py" (t+2),oI l,oI a,oI b,oI c,oI 3,.ref r,.bool true,oI 386,.ref (r+1),x,y,z,.ref e,oI f,oI l,oS "/claim/cut.py" g].toArray }
noncomputable def KU (n:String) (t:Tok) (c:Addr) (i:Int):Obj:={ cls:=.type "member_descriptor",data:=.fields [oS n t,.ref c,.builtin "proto.slot",.builtin "proto.slot#set",oI i].toArray }
noncomputable def KN (l:List Value):Obj:={ cls:=.type "tuple",data:=.seq l.toArray 0 }
noncomputable def Mf (l:List DictEntry) (k:Nat):Obj:={ cls:=.type "dict",data:=.dict l.toArray k }
noncomputable def O7:Obj:=EY (BQ 3 1) "__get__" "_tuplegetter.__get__" [] (.ref 64) .none .none "cpy313.statistics" 399 70
noncomputable def KV:Obj:={ cls:=.type "type",data:=.cls { name:="StatisticsError",bases:=[.type "ValueError"],mro:=[.ref 102,.type "ValueError",.type "Exception",.type "BaseException",.type "object"],ns:=101,qualname:="StatisticsError",hasDict:=true,slotNames:=[],subclasses:=[],abstract:=false,collection:=none,hasDel:=false },slots:=[(some (.ref 93)),none,(some (oS "StatisticsError" 458)),(some (oS "StatisticsError" 466)),(some (.builtin "ValueError.__new__")),(some (.bool true))].toArray }
noncomputable def G1:Obj:=EY (BM 8) "_pull" "_pull" [] .none .none .none "itertools" 476 118
noncomputable def Mg:Obj:=EY (BM 9) "_same" "_same" [] .none .none .none "itertools" 476 125
noncomputable def O8:Obj:=EY (BQ 10 1) "__init__" "groupby.__init__" [] (.ref 135) .none .none "itertools" 476 141
noncomputable def O9:Obj:=EY (BQ 10 2) "__iter__" "groupby.__iter__" [] .none .none .none "itertools" 476 148
noncomputable def KW:Obj:=EY (BQ 10 3) "_step" "groupby._step" [] .none .none .none "itertools" 476 155
noncomputable def FW:Obj:=EY (BQ 10 4) "__next__" "groupby.__next__" [] .none .none .none "itertools" 476 162
noncomputable def O':Obj:=EY (BQ 11 1) "__init__" "_grouper.__init__" [] .none .none .none "itertools" 476 193
noncomputable def PA:Obj:=EY (BQ 11 2) "__iter__" "_grouper.__iter__" [] .none .none .none "itertools" 476 200
noncomputable def Ij:Obj:=EY (BQ 11 3) "__next__" "_grouper.__next__" [] .none .none .none "itertools" 476 207
noncomputable def KY:Obj:=EY (BM 12) "_count_kind" "_count_kind" [] .none .none .none "itertools" 476 223
noncomputable def PB:Obj:=EY (BQ 13 1) "__init__" "count.__init__" [] (.ref 233) .none .none "itertools" 476 239
noncomputable def PC:Obj:=EY (BQ 13 2) "__iter__" "count.__iter__" [] .none .none .none "itertools" 476 246
noncomputable def PD:Obj:=EY (BQ 13 3) "__next__" "count.__next__" [] .none .none .none "itertools" 476 253
noncomputable def Mh:Obj:=EY (BQ 15 2) "__init__" "itemgetter.__init__" [] .none .none (Di (BQ 15 2) 748) "operator" 721 284
noncomputable def Ik:Obj:=EY (BQ 15 3) "__call__" "itemgetter.__call__" [] .none .none (Di (BQ 15 3) 760) "operator" 721 291
noncomputable def Ed:Obj:=EY (BM 17) "_rank" "_rank" [] .none (.ref 314) (Di (BM 17) 813) "cpy313.statistics" 785 320
noncomputable def Ee:Obj:=EY (BM 18) "fmean" "fmean" [] (.ref 322) .none (Di (BM 18) 827) "cpy313.statistics" 785 328
noncomputable def Il:Obj:=EY (BM 19) "_sqrtprod" "_sqrtprod" [] .none .none (Di (BM 19) 839) "cpy313.statistics" 785 335
noncomputable def PF:Obj:=GY "covariance" "covariance" 841 280 2 2 0 337 .none (.ref 339) (.ref 340) 341 850 851
noncomputable def G3:Obj:=EY (BM 20) "covariance" "covariance" [] .none .none (Di (BM 20) 852) "cpy313.statistics" 785 342
noncomputable def Ef:Obj:=EY (BM 21) "correlation" "correlation" [] .none (.ref 344) (Di (BM 21) 861) "cpy313.statistics" 785 348
noncomputable def PG:Obj:=EY (BQ 22 4) "__new__" "LinearRegression.__new__" [] .none .none (Di (BQ 22 4) 891) "cpy313.statistics" 785 366
noncomputable def Ub (P:Params):Obj:=Mf [en P "index" 959 (.int (0) 953),en P "__doc__" 961 (oS "Alias for field number 0" 954)] 2
noncomputable def Uc (P:Params):Obj:=Mf [en P "index" 969 (.int (1) 963),en P "__doc__" 971 (oS "Alias for field number 1" 964)] 2
noncomputable def Ud:Obj:={ cls:=.ref 88,dict:=some 408,data:=.plain }
noncomputable def Ue:Obj:={ cls:=.ref 88,dict:=some 411,data:=.plain }
noncomputable def PH:Obj:={ cls:=.type "type",data:=.cls { name:="LinearRegression",bases:=[.type "tuple"],mro:=[.ref 417,.type "tuple",.type "object"],ns:=416,qualname:="LinearRegression",hasDict:=false,slotNames:=[],subclasses:=[],abstract:=false,collection:=none,hasDel:=false },slots:=[(some (.ref 350)),none,(some (oS "LinearRegression" 863)),(some (oS "LinearRegression" 871)),(some .none),(some (.bool false))].toArray }
noncomputable def Ug:Obj:=GY "linear_regression" "linear_regression" 979 394 2 2 1 422 .none .none .none 424 982 983
noncomputable def Im:Obj:=EY (BM 23) "linear_regression" "linear_regression" [] .none (.ref 421) (Di (BM 23) 984) "cpy313.statistics" 785 425
noncomputable def Uh:Obj:=GY "_law_ask" "_law_ask" 988 451 1 0 0 427 .none (.ref 429) (.ref 430) 431 992 993
noncomputable def PI:Obj:=EY (BM 25) "_law_ask" "_law_ask" [] .none .none .none "law_ij0066_01" 986 432
noncomputable def Ui:Obj:=GY "_law_line" "_law_line" 995 456 2 0 0 434 .none (.ref 436) (.ref 437) 438 1003 1004
noncomputable def Io:Obj:=EY (BM 26) "_law_line" "_law_line" [] .none .none .none "law_ij0066_01" 986 439
noncomputable def KZ:Obj:=EY (BM 27) "_law_agree" "_law_agree" [] .none .none .none "law_ij0066_01" 986 444
noncomputable def Uj:Obj:=GY "law" "law" 1012 461 1 0 0 446 .none .none .none 448 1015 1016
noncomputable def Ip:Obj:=EY (BM 28) "law" "law" [] .none .none .none "law_ij0066_01" 986 449
noncomputable def K0 (P:Params):Frag:=[(3,Mf [en P "__name__" 165 (oS "law_ij0066_01" 986),en P "__doc__" 166 .none,en P "__package__" 167 .none,en P "__loader__" 168 (.builtin "__main__.__loader__#opaque"),en P "__spec__" 169 .none,en P "__annotations__" 170 (.ref 6),en P "__builtins__" 171 (.ref 4),en P "__file__" 173 (oS "/claim/cut.py" 172),en P "__cached__" 174 .none,en P "fsum" 373 (.builtin "math.fsum"),en P "isfinite" 376 (.builtin "math.isfinite"),en P "isinf" 379 (.builtin "math.isinf"),en P "sqrt" 382 (.builtin "math.sqrt"),en P "sumprod" 385 (.builtin "math.sumprod"),en P "_wall" 398 (.ref 49),en P "_tuplegetter" 457 (.ref 88),en P "StatisticsError" 475 (.ref 102),en P "_MAXSIZE" 479 (.int (9223372036854775807) 478),en P "_is_int" 487 (.ref 112),en P "_pull" 494 (.ref 119),en P "_same" 502 (.ref 126),en P "groupby" 593 (.ref 167),en P "_grouper" 647 (.ref 212),en P "_count_kind" 655 (.ref 224),en P "count" 720 (.ref 265),en P "itemgetter" 784 (.ref 310),en P "_rank" 814 (.ref 321),en P "fmean" 828 (.ref 329),en P "_sqrtprod" 840 (.ref 336),en P "covariance" 853 (.ref 343),en P "correlation" 862 (.ref 349),en P "LinearRegression" 977 (.ref 417),en P "linear_regression" 985 (.ref 426),en P "_law_ask" 994 (.ref 433),en P "_law_line" 1005 (.ref 440),en P "_law_agree" 1011 (.ref 445),en P "law" 1017 (.ref 450)] 37),(62,GY "__init__" "_tuplegetter.__init__" 413 8 3 0 0 57 .none (.ref 59) (.ref 60) 61 419 420),(63,EY (BQ 3 0) "__init__" "_tuplegetter.__init__" [] .none .none .none "cpy313.statistics" 399 62),(64,KN [.none]),(70,GY "__get__" "_tuplegetter.__get__" 422 12 3 0 0 65 .none (.ref 67) (.ref 68) 69 428 429),(71,O7),(78,EY (BQ 3 2) "__set__" "_tuplegetter.__set__" [] .none .none .none "cpy313.statistics" 399 77),(85,EY (BQ 3 3) "__delete__" "_tuplegetter.__delete__" [] .none .none .none "cpy313.statistics" 399 84),(86,KN [oS "__doc__" 448,oS "index" 449]),(87,Mf [en P "__module__" 408 (oS "cpy313.statistics" 399),en P "__firstlineno__" 412 (.int (6) 411),en P "__init__" 421 (.ref 63),en P "__get__" 430 (.ref 71),en P "__set__" 439 (.ref 78),en P "__delete__" 447 (.ref 85),en P "__static_attributes__" 450 (.ref 86),en P "__dict__" 452 (.ref 89),en P "__weakref__" 454 (.ref 90),en P "__doc__" 455 .none] 4),(88,{ cls:=.type "type",data:=.cls { name:="_tuplegetter",bases:=[.type "object"],mro:=[.ref 88,.type "object"],ns:=87,qualname:="_tuplegetter",hasDict:=true,slotNames:=[],subclasses:=[],abstract:=false,collection:=none,hasDel:=false },slots:=[none,none,(some (oS "_tuplegetter" 401)),(some (oS "_tuplegetter" 409)),(some (.builtin "object.__new__")),(some (.bool true))].toArray }),(89,{ cls:=.type "getset_descriptor",data:=.fields [oS "__dict__" 451,.ref 88,.builtin "function.__dict__",.builtin "function.__dict__#set"].toArray }),(90,{ cls:=.type "getset_descriptor",data:=.fields [oS "__weakref__" 453,.ref 88,.builtin "ExceptionGroup.__weakref__",.none].toArray }),(100,KN []),(101,Mf [en P "__module__" 465 (oS "cpy313.statistics" 399),en P "__firstlineno__" 469 (.int (24) 468),en P "__static_attributes__" 470 (.ref 100),en P "__weakref__" 472 (.ref 103),en P "__doc__" 473 .none] 3),(102,KV),(103,{ cls:=.type "getset_descriptor",data:=.fields [oS "__weakref__" 471,.ref 102,.builtin "ExceptionGroup.__weakref__",.none].toArray }),(111,GY "_is_int" "_is_int" 480 28 1 0 0 106 .none (.ref 108) (.ref 109) 110 485 486),(112,EY (BM 7) "_is_int" "_is_int" [] .none .none .none "itertools" 476 111),(118,GY "_pull" "_pull" 488 31 1 0 0 113 .none (.ref 115) (.ref 116) 117 492 493),(119,G1),(125,GY "_same" "_same" 495 36 2 0 0 120 .none (.ref 122) (.ref 123) 124 500 501),(126,Mg),(134,KN [oS "_keyfunc" 515,oS "_it" 516,oS "_has_tgtkey" 517,oS "_tgtkey" 518,oS "_has_currkey" 519,oS "_currkey" 520,oS "_has_currvalue" 521,oS "_currvalue" 522,oS "_currgrouper" 523,oS "_serial" 524]),(135,KN [.none]),(141,GY "__init__" "groupby.__init__" 526 45 3 0 0 136 .none (.ref 138) (.ref 139) 140 532 533),(142,O8),(148,GY "__iter__" "groupby.__iter__" 535 57 1 0 0 143 .none (.ref 145) (.ref 146) 147 539 540),(149,O9),(155,GY "_step" "groupby._step" 542 60 1 0 0 150 .none (.ref 152) (.ref 153) 154 549 550),(156,KW),(162,GY "__next__" "groupby.__next__" 552 73 1 0 0 157 .none (.ref 159) (.ref 160) 161 557 558),(163,FW),(164,KN [oS "_currgrouper" 560,oS "_currkey" 561,oS "_currvalue" 562,oS "_has_currkey" 563,oS "_has_currvalue" 564,oS "_has_tgtkey" 565,oS "_it" 566,oS "_keyfunc" 567,oS "_serial" 568,oS "_tgtkey" 569]),(166,Mf [en P "__module__" 510 (oS "itertools" 476),en P "__firstlineno__" 514 (.int (42) 513),en P "__slots__" 525 (.ref 134),en P "__init__" 534 (.ref 142),en P "__iter__" 541 (.ref 149),en P "_step" 551 (.ref 156),en P "__next__" 559 (.ref 163),en P "__static_attributes__" 570 (.ref 164),en P "_currgrouper" 572 (.ref 168),en P "_currkey" 574 (.ref 169),en P "_currvalue" 576 (.ref 170),en P "_has_currkey" 578 (.ref 171),en P "_has_currvalue" 580 (.ref 172),en P "_has_tgtkey" 582 (.ref 173),en P "_it" 584 (.ref 174),en P "_keyfunc" 586 (.ref 175),en P "_serial" 588 (.ref 176),en P "_tgtkey" 590 (.ref 177),en P "__doc__" 591 .none] 12),(167,{ cls:=.type "type",data:=.cls { name:="groupby",bases:=[.type "object"],mro:=[.ref 167,.type "object"],ns:=166,qualname:="groupby",hasDict:=false,slotNames:=["_currgrouper","_currkey","_currvalue","_has_currkey","_has_currvalue","_has_tgtkey","_it","_keyfunc","_serial","_tgtkey"],subclasses:=[],abstract:=false,collection:=none,hasDel:=false },slots:=[none,none,(some (oS "groupby" 503)),(some (oS "groupby" 511)),(some (.builtin "object.__new__")),(some (.bool false))].toArray }),(168,KU "_currgrouper" 571 167 9),(169,KU "_currkey" 573 167 8),(170,KU "_currvalue" 575 167 7),(171,KU "_has_currkey" 577 167 6),(172,KU "_has_currvalue" 579 167 5),(173,KU "_has_tgtkey" 581 167 4),(174,KU "_it" 583 167 3),(175,KU "_keyfunc" 585 167 2),(176,KU "_serial" 587 167 1),(177,KU "_tgtkey" 589 167 0),(187,KN [oS "_parent" 606,oS "_tgtkey" 607,oS "_number" 608]),(193,GY "__init__" "_grouper.__init__" 610 89 3 3 0 188 .none (.ref 190) (.ref 191) 192 616 617),(194,O'),(200,GY "__iter__" "_grouper.__iter__" 619 98 1 0 0 195 .none (.ref 197) (.ref 198) 199 623 624),(201,PA),(207,GY "__next__" "_grouper.__next__" 626 101 1 0 0 202 .none (.ref 204) (.ref 205) 206 632 633),(208,Ij),(209,KN [oS "_number" 635,oS "_parent" 636,oS "_tgtkey" 637]),(211,Mf [en P "__module__" 601 (oS "itertools" 476),en P "__firstlineno__" 605 (.int (86) 604),en P "__slots__" 609 (.ref 187),en P "__init__" 618 (.ref 194),en P "__iter__" 625 (.ref 201),en P "__next__" 634 (.ref 208),en P "__static_attributes__" 638 (.ref 209),en P "_number" 640 (.ref 213),en P "_parent" 642 (.ref 214),en P "_tgtkey" 644 (.ref 215),en P "__doc__" 645 .none] 5),(212,{ cls:=.type "type",data:=.cls { name:="_grouper",bases:=[.type "object"],mro:=[.ref 212,.type "object"],ns:=211,qualname:="_grouper",hasDict:=false,slotNames:=["_number","_parent","_tgtkey"],subclasses:=[],abstract:=false,collection:=none,hasDel:=false },slots:=[none,none,(some (oS "_grouper" 594)),(some (oS "_grouper" 602)),(some (.builtin "object.__new__")),(some (.bool false))].toArray }),(213,KU "_number" 639 212 2),(214,KU "_parent" 641 212 1),(215,KU "_tgtkey" 643 212 0),(223,GY "_count_kind" "_count_kind" 648 115 1 0 0 218 .none (.ref 220) (.ref 221) 222 653 654),(224,KY),(232,KN [oS "_fast" 668,oS "_cnt" 669,oS "_step" 670]),(233,KN [(.int (0) 672),(.int (1) 673)]),(239,GY "__init__" "count.__init__" 674 127 3 0 0 234 .none (.ref 236) (.ref 237) 238 683 684),(240,PB),(246,GY "__iter__" "count.__iter__" 686 139 1 0 0 241 .none (.ref 243) (.ref 244) 245 690 691),(247,PC),(253,GY "__next__" "count.__next__" 693 142 1 0 0 248 .none (.ref 250) (.ref 251) 252 698 699),(254,PD),(261,EY (BQ 13 4) "__repr__" "count.__repr__" [] .none .none .none "itertools" 476 260),(262,KN [oS "_cnt" 708,oS "_fast" 709,oS "_step" 710]),(264,Mf [en P "__module__" 663 (oS "itertools" 476),en P "__firstlineno__" 667 (.int (124) 666),en P "__slots__" 671 (.ref 232),en P "__init__" 685 (.ref 240),en P "__iter__" 692 (.ref 247),en P "__next__" 700 (.ref 254),en P "__repr__" 707 (.ref 261),en P "__static_attributes__" 711 (.ref 262),en P "_cnt" 713 (.ref 266),en P "_fast" 715 (.ref 267),en P "_step" 717 (.ref 268),en P "__doc__" 718 .none] 5),(265,{ cls:=.type "type",data:=.cls { name:="count",bases:=[.type "object"],mro:=[.ref 265,.type "object"],ns:=264,qualname:="count",hasDict:=false,slotNames:=["_cnt","_fast","_step"],subclasses:=[],abstract:=false,collection:=none,hasDel:=false },slots:=[none,none,(some (oS "count" 656)),(some (oS "count" 664)),(some (.builtin "object.__new__")),(some (.bool false))].toArray }),(266,KU "_cnt" 712 265 2),(267,KU "_fast" 714 265 1),(268,KU "_step" 716 265 0),(278,KN [oS "_items" 738]),(284,{ cls:=.type "code",data:=.fields [oS "__init__" 740,oS "itemgetter.__init__" 741,oS "/claim/cut.py" 742,oI 158,oI 2,oI 2,oI 0,oI 7,.ref 279,.bool true,oI 386,.ref 280,.none,.ref 281,.ref 282,.ref 283,oI 746,oI 158,oS "/claim/cut.py" 747].toArray }),(285,Mh),(291,GY "__call__" "itemgetter.__call__" 750 162 2 2 0 286 .none (.ref 288) (.ref 289) 290 758 759),(292,Ik),(299,EY (BQ 15 4) "__repr__" "itemgetter.__repr__" [] .none .none (Di (BQ 15 4) 769) "operator" 721 298),(306,EY (BQ 15 5) "__reduce__" "itemgetter.__reduce__" [] .none .none (Di (BQ 15 5) 777) "operator" 721 305),(307,KN [oS "_items" 779]),(309,Mf [en P "__module__" 730 (oS "operator" 721),en P "__firstlineno__" 734 (.int (152) 733),en P "__doc__" 736 (oS "Return a callable object that fetches the given item(s) from its operand.\nAfter f = itemgetter(2), the call f(r) returns r[2].\nAfter g = itemgetter(2, 5, 3), the call g(r) returns (r[2], r[5], r[3])" 735),en P "__slots__" 739 (.ref 278),en P "__init__" 749 (.ref 285),en P "__call__" 761 (.ref 292),en P "__repr__" 770 (.ref 299),en P "__reduce__" 778 (.ref 306),en P "__static_attributes__" 780 (.ref 307),en P "_items" 782 (.ref 311)] 2),(310,{ cls:=.type "type",data:=.cls { name:="itemgetter",bases:=[.type "object"],mro:=[.ref 310,.type "object"],ns:=309,qualname:="itemgetter",hasDict:=false,slotNames:=["_items"],subclasses:=[],abstract:=false,collection:=none,hasDel:=false },slots:=[none,none,(some (oS "itemgetter" 723)),(some (oS "itemgetter" 731)),(some (.builtin "object.__new__")),(some (.bool false))].toArray }),(311,KU "_items" 781 310 0),(314,Mf [en P "key" 789 .none,en P "reverse" 790 (.bool false),en P "ties" 791 (oS "average" 787),en P "start" 792 (.int (1) 788)] 4),(320,GY "_rank" "_rank" 793 185 1 1 4 315 .none (.ref 317) (.ref 318) 319 811 812),(321,Ed),(322,KN [.none]),(328,GY "fmean" "fmean" 815 231 2 0 0 323 .none (.ref 325) (.ref 326) 327 825 826),(329,Ee),(335,GY "_sqrtprod" "_sqrtprod" 829 265 2 0 0 330 .none (.ref 332) (.ref 333) 334 837 838),(336,Il),(342,PF),(343,G3),(344,Mf [en P "method" 855 (oS "linear" 854)] 1),(348,GY "correlation" "correlation" 856 306 2 2 1 345 .none .none .none 347 859 860),(349,Ef),(358,KN []),(359,KN [oS "slope" 879,oS "intercept" 880]),(360,Mf [] 0),(366,GY "__new__" "LinearRegression.__new__" 883 358 3 0 0 361 .none (.ref 363) (.ref 364) 365 889 890),(367,PG),(376,{ cls:=.type "classmethod",dict:=some 375,data:=.fields [.ref 374,.bool false].toArray }),(385,{ cls:=.type "function",data:=.func (fnAt (BQ 22 6) "_replace" "LinearRegression._replace" 3 [("__class__",353)] .none .none (Di (BQ 22 6) 924) (oS "cpy313.statistics" 785) none (.ref 384) (.ref 378) 0) }),(392,EY (BQ 22 8) "__repr__" "LinearRegression.__repr__" [] .none .none (Di (BQ 22 8) 933) "cpy313.statistics" 785 391),(399,EY (BQ 22 9) "_asdict" "LinearRegression._asdict" [] .none .none .none "cpy313.statistics" 785 398),(406,EY (BQ 22 10) "__getnewargs__" "LinearRegression.__getnewargs__" [] .none .none (Di (BQ 22 10) 948) "cpy313.statistics" 785 405),(407,KN [oS "slope" 950,oS "intercept" 951]),(408,Ub P),(409,Ud),(411,Uc P),(412,Ue),(414,KN []),(416,Mf [en P "__module__" 870 (oS "cpy313.statistics" 785),en P "__firstlineno__" 874 (.int (352) 873),en P "__doc__" 876 (oS "LinearRegression(slope, intercept)" 875),en P "__slots__" 878 (.ref 358),en P "_fields" 881 (.ref 359),en P "_field_defaults" 882 (.ref 360),en P "__new__" 892 (.ref 418),en P "_make" 914 (.ref 376),en P "_replace" 925 (.ref 385),en P "__replace__" 926 (.ref 385),en P "__repr__" 934 (.ref 392),en P "_asdict" 941 (.ref 399),en P "__getnewargs__" 949 (.ref 406),en P "__match_args__" 952 (.ref 407),en P "slope" 962 (.ref 409),en P "intercept" 972 (.ref 412),en P "__static_attributes__" 973 (.ref 414)] 2),(417,PH),(418,{ cls:=.type "staticmethod",data:=.fields [.ref 367].toArray }),(421,Mf [en P "proportional" 978 (.bool false)] 1),(425,Ug),(426,Im),(432,Uh),(433,PI),(439,Ui),(440,Io),(444,GY "_law_agree" "_law_agree" 1006 459 2 0 0 441 .none .none .none 443 1009 1010),(445,KZ),(449,Uj),(450,Ip)]
end
section
open PySem PySem.W PySem.Calls PyProof.Rows PySem.Spec
theorem D3 {k:Nat} (h:k≤1000):k≤sizeLine:=AJ h (by decide)
abbrev DH (Q:Value→Shared→Prop) (E:Value→Shared→Prop):Result→Shared→Prop:=fun r s'=>match r with | .ok (.ret v)=>Q v s' | .ok _=>False | .error e=>E e s'
theorem Wn {s:String} : Value.ref a≠.type s:=fun e=>Value.noConfusion e
theorem Rz {s:String} : Value.type s≠.ref a:=fun e=>Value.noConfusion e
theorem Wo {s:String} : Value.type s≠.none:=fun e=>Value.noConfusion e
theorem Y9 {b:Addr} (h:a≠b):Value.ref a≠.ref b:=fun e=>h (Value.ref.inj e)
theorem R4 {a b:String} (h:a≠b):Value.type a≠.type b:=fun e=>h (Value.type.inj e)
theorem le2 (n:Nat):n≤n+1+1:=Nat.le_succ_of_le (Nat.le_succ n)
@[elab_as_elim] theorem AB {k:Sort _} {a b:k} {P:k→Prop} (e:a=b) (h:P b):P a:=e▸h
@[elab_as_elim] theorem Ar {k:Sort _} {a b:k} {P:k→Prop} (e:a=b) (h:P a):P b:=e▸h
theorem Y' {a b:Nat} (h:a<b):b+1-(a+1)<b+1-a:=Nat.sub_lt_sub_left (Nat.lt_succ_of_lt h) (Nat.lt_succ_self a)
theorem ZA (h:n-i=m+1):n-(i+1)=m:=(Nat.sub_succ n i).trans (congrArg Nat.pred h)
theorem cG (h:i≤n) (e:n-i=0):i=n:=Nat.le_antisymm h (Nat.le_of_sub_eq_zero e)
theorem Uk {x:Int} {k:Nat} (h:0≤x) (h':x≤k):x.natAbs≤k:=Int.ofNat_le.mp ((Int.natAbs_of_nonneg h).symm▸h')
theorem Yi {x y:Int} {a b:Nat} (h:x.natAbs≤a) (k:y.natAbs≤b):(x+y).natAbs≤a+b:=AJ (Int.natAbs_add_le x y) (Nat.add_le_add h k)
theorem cH {x y:Int} {a b:Nat} (h:x.natAbs≤a) (k:y.natAbs≤b):(x-y).natAbs≤a+b:=AJ (Int.natAbs_sub_le x y) (Nat.add_le_add h k)
theorem Yj {x:Int} {k:Nat} (h:x.natAbs<k):x<k:=Int.lt_of_le_of_lt Int.le_natAbs (Int.ofNat_lt.mpr h)
theorem cJ {x:Int} {k:Nat} (h:x.natAbs<k) : -(k:Int)<x:=Int.neg_lt_of_neg_lt (Yj ((Int.natAbs_neg x).symm▸h))
theorem ZC {k:Nat} (h:n≤k):(n:Int).natAbs≤k:=h
theorem ZD {k:Nat} (h:n<k):(n:Int).natAbs<k:=h
theorem Wq (h:0<n):(n:Int)≠0:=Int.ne_of_gt (Int.ofNat_lt.mpr h)
theorem R5 (h:2≤n):0<(n:Int)-1:=Int.sub_pos_of_lt (Int.ofNat_lt.mpr (Nat.lt_of_succ_le h))
theorem VJ (h:2≤n):(n:Int)-1≠0:=Int.ne_of_gt (R5 h)
theorem ZE {k:Nat} (h:n<k):(n:Int)<k:=Int.ofNat_lt.mpr h
theorem Ka {x:Int} (h:0<x):0<x.natAbs:=Int.natAbs_pos.mpr (Int.ne_of_gt h)
theorem ZG {x:Int} (h:x≠0):0<x.natAbs:=Int.natAbs_pos.mpr h
theorem Wr {f:Nat} : n-f+min f n=n:=(congrArg (n-f + ·) (Nat.min_comm f n)).trans (Nat.sub_add_min_cancel n f)
theorem R6 (h:0<n):((n:Int)-1).natAbs<n:=by induction n with | zero=>exact absurd h (Nat.lt_irrefl 0) | succ m=>rw [show((m+1:Nat):Int)-1=m from Int.add_sub_cancel m 1];exact Nat.lt_succ_self m
theorem Kb (h:2≤n):(n:Int)≠0:=Wq (Nat.lt_of_succ_le (Nat.le_of_succ_le h))
theorem Hd (h:n≤1000):(n:Int).natAbs<2^53:=Nat.lt_of_le_of_lt h (Bh rfl)
theorem Ws (h:2≤n) (k:n≤1000):((n:Int)-1).natAbs<2^53:=Nat.lt_trans (R6 (Nat.lt_of_succ_le (Nat.le_of_succ_le h))) (Nat.lt_of_le_of_lt k (Bh rfl))
theorem ZI {a b:Nat} (h:a-b+(b-a)≤a-a+(a-a)):b=a:=by
 rw [Nat.sub_self]at h;have h:=Nat.add_eq_zero_iff.mp (Nat.le_zero.mp h);exact Nat.le_antisymm (Nat.le_of_sub_eq_zero h.2) (Nat.le_of_sub_eq_zero h.1)
theorem ZJ {A b:Nat} (h:A≤b) (g:b<c) (k:A-c+(c-A)≤A-b+(b-A)):False:=by
 rw [Nat.sub_eq_zero_of_le h,Nat.zero_add]at k;exact Nat.not_lt.mpr (AJ (Nat.le_add_left _ _) k) (Nat.sub_lt_sub_right h g)
theorem ZK {A a b:Nat} (g:a<b) (h:b≤A) (k:A-a+(a-A)≤A-b+(b-A)):False:=by
 rw [Nat.sub_eq_zero_of_le h,Nat.add_zero]at k;exact Nat.not_lt.mpr (AJ (Nat.le_add_right _ _) k) (Nat.sub_lt_sub_left (Nat.lt_of_lt_of_le g h) g)
theorem da {a b:Nat} (h:¬a<b):b≤a:=Nat.not_lt.mp h
theorem cK {a b:Nat} (h:¬a≤b):b<a:=Nat.not_le.mp h
theorem Yk {a b:Nat} (h:b≤a):¬a<b:=Nat.not_lt.mpr h
theorem de {a b:Nat} (h:b<a):¬a≤b:=Nat.not_le.mpr h
theorem ZL {a b:Nat} (h:a≤b) (k:¬a=b):a<b:=Nat.lt_of_le_of_ne h k
theorem Yl {a b:Nat} (k:a<c-b):b+a<c:=Nat.add_lt_of_lt_sub' k
theorem ZM {k:Nat} (h:k+m=n):m=n-k:=(Nat.sub_eq_of_eq_add' h.symm).symm
theorem ZO {k:Nat} (h:1≤k) (e:k+m=n):n-k<n:=Nat.sub_lt (Nat.lt_of_lt_of_le h (e▸Nat.le_add_right k m)) h
theorem ZP {t:Nat} (h:t<m):t-1<m:=Nat.lt_of_le_of_lt (Nat.sub_le t 1) h
theorem R7 {j:Nat} (h:j<n):j≤n-1:=Nat.le_sub_one_of_lt h
theorem Wt {t u:Nat} (h:t<u) (a:t%2=0) (b:u%2=0):t+1<u:=Nat.lt_of_le_of_ne h fun e=>by rw [←e,Nat.add_mod,a]at b;exact absurd b (by decide)
theorem ZQ {a:Nat} {x:Nat} (h:a+20*m≤x):a≤x:=AJ (Nat.le_add_right _ _) h
theorem VK {a:Nat} (h:a+20*(n+1)≤9000):a+1+20*n≤9000:=AJ (AJ (Nat.le_of_eq (Nat.add_right_comm a 1 (20*n))) (Nat.add_le_add_left (by decide:1≤20) _)) (show a+20*n+20≤9000 from h)
theorem ZR {a:Nat} (h:a+20*(n+1)≤9000):a+3+20*n≤9000:=AJ (AJ (Nat.le_of_eq (Nat.add_right_comm a 3 (20*n))) (Nat.add_le_add_left (by decide:3≤20) _)) (show a+20*n+20≤9000 from h)
theorem ZU {a:Nat} (h:a+20*(n+1)≤9000):a+1+20*0≤9000:=show a+1≤9000 from AJ (Nat.add_le_add (Nat.le_add_right a (20*n)) (by decide:1≤20)) (show a+20*n+20≤9000 from h)
theorem Nu {a:Nat} (h:a+n≤900):a<1000:=Nat.lt_of_le_of_lt (AJ (Nat.le_add_right a n) h) (by decide)
theorem Wu (h:2≤n) (k:n≤6):n=2∨n=3∨n=4∨n=5∨n=6:=(by decide:∀ n,n<7→2≤n→(n=2∨n=3∨n=4∨n=5∨n=6)) n (Nat.lt_succ_of_le k) h
theorem Nv {k:Nat} (h:n≤k) (e:k<m):(n:Int).natAbs<m:=Nat.lt_of_le_of_lt h e
theorem ZV {k:Nat} (g:2≤n) (h:n≤k) (e:k<m):((n:Int)-1).natAbs<m:=Nat.lt_trans (R6 (Nat.lt_of_succ_le (Nat.le_of_succ_le g))) (Nat.lt_of_le_of_lt h e)
theorem R8 {k:Nat} (h:n<k) (e:k≤m):(n:Int)<m:=Int.ofNat_lt.mpr (Nat.lt_of_lt_of_le h e)
theorem Kc {i:Int} {k:Nat} {m:Int} (h:i.natAbs<k) (e:(k:Int)≤m):i<m:=Int.lt_of_lt_of_le (Yj h) e
theorem VL {i:Int} {k:Nat} {m:Int} (h:i.natAbs<k) (e:m≤-(k:Int)):m<i:=Int.lt_of_le_of_lt e (cJ h)
theorem ZW (h:k<0) : -(k.natAbs:Int)=k:=(congrArg Neg.neg (Int.ofNat_natAbs_of_nonpos (Int.le_of_lt h))).trans (Int.neg_neg k)
theorem ZX (h:¬k<0):(k.natAbs:Int)=k:=Int.natAbs_of_nonneg (Int.not_lt.mp h)
theorem ZY {f:Int} (h:0≤f) (k:f<7):(16*(f-3-1)).natAbs≤2^20:=by rw [Int.natAbs_mul];exact AJ (Nat.mul_le_mul_left 16 (cH (cH (Uk (k:=6) h (Int.le_of_lt_add_one k)) (Nat.le_refl 3)) (Nat.le_refl 1))) (by decide)
theorem Za (h:n≤6):(-8*((n:Int)+1)).natAbs≤2^20:=by rw [Int.natAbs_mul];exact AJ (Nat.mul_le_mul_left 8 (Yi (ZC h) (Nat.le_refl 1))) (by decide)
theorem Zb (h:c=8∨c=4):(c:Int).natAbs≤8:=h.elim (fun e=>e▸Nat.le_refl _) fun e=>e▸by decide
theorem Wv (h:2≤n):0<2*(n:Int)-2:=Int.sub_pos_of_lt (Int.ofNat_lt.mpr (Nat.lt_of_lt_of_le (by decide:2<4) (Nat.mul_le_mul_left 2 h)))
theorem Zc (h:0≤k) (e:k≠0):0<16*k:=Int.mul_pos (by decide) (Int.lt_iff_le_and_ne.mpr ⟨h,Ne.symm e⟩)
theorem Zd (h:0≤k) (e:k≠0):0<2*k:=Int.mul_pos (by decide) (Int.lt_iff_le_and_ne.mpr ⟨h,Ne.symm e⟩)
theorem Ze : (1+i)%3=0∨(1+i)%3=1∨(1+i)%3=2:=(by decide:∀ r,r<3→(r=0∨r=1∨r=2)) _ (Nat.mod_lt _ (by decide))
theorem Zf {x:Nat} : 9*x%3=0:=by rw [show 9*x=3*(3*x)from Nat.mul_assoc 3 3 x];exact Nat.mul_mod_right 3 _
theorem Ww (h:i<n):((0≤if(i:Int)<0 then(i:Int)+n else i)∧(if(i:Int)<0 then(i:Int)+n else i)<n)∧(if(i:Int)<0 then(i:Int)+n else i).toNat=i:=by rw [if_neg (Int.not_lt.mpr (Int.natCast_nonneg i))];exact⟨⟨Int.natCast_nonneg i,Int.ofNat_lt.mpr h⟩,rfl⟩
theorem Zg (h:i<1000):¬((i:Int) < -2^63∨(i:Int)≥2^63):=fun q=>q.elim (fun q=>absurd (Int.lt_of_lt_of_le q (by decide:(-2^63:Int)≤0)) (Int.not_lt.mpr (Int.natCast_nonneg i))) fun q=>absurd (Int.ofNat_lt.mpr h) (Int.not_lt.mpr (Int.le_trans (by decide) q))
theorem Zh {c:Int} (h:c.natAbs≤2^62) : -2^63≤c∧c≤9223372036854775807:=⟨Int.le_trans (by decide) (Int.le_of_lt (cJ (Nat.lt_succ_of_le h))),Int.le_trans (Int.le_of_lt (Yj (Nat.lt_succ_of_le h))) (by decide)⟩
theorem Zi {n:Int} (h:0<n):0<(16*n).natAbs:=Ka (Int.mul_pos (by decide) h)
theorem VM {i:Int} : (16*i<0)↔i<0:=⟨fun h=>Int.not_le.mp fun k=>absurd h (Int.not_lt.mpr (Int.mul_nonneg (by decide) k)),fun h=>Int.mul_neg_of_pos_of_neg (by decide) h⟩
theorem Wx {a b:Int} (h:16*a=b*k) (l:a<0) (m:0≤b*k):k<0:=absurd (h.symm▸m) (Int.not_le.mpr (VM.mpr l))
theorem Wy {a b:Int} (h:16*a=b*k) (l:b*k<0):a<0:=VM.mp (h.symm▸l)
theorem Wz {a b c:Int} (h:a<b):c<b∨a<c:=(Decidable.em (c<b)).elim .inl fun k=>.inr (Int.lt_of_lt_of_le h (Int.not_lt.mp k))
theorem Zj {D P:Nat} (h:W-0+(0-W)≤W-D+(D-W)) (k:P<W) (g:D≤P) (i:0<D):False:=by rw [Nat.sub_eq_zero_of_le (AJ g (Nat.le_of_lt k))]at h;exact Nat.not_lt.mpr (AJ (Nat.le_add_right W (0-W)) h) (Nat.sub_lt (Nat.lt_of_le_of_lt (Nat.zero_le P) k) i)
theorem Zk (h:0≤k) (e:k≤6):k.natAbs≤6:=Uk (k:=6) h e
theorem Zl {i:Int} (h:1≤i) (k:i<1+(184:Nat)):i.natAbs<2^40:=Nat.lt_of_le_of_lt (Uk (k:=184) (Int.le_trans (by decide) h) (Int.le_of_lt_add_one k)) (by decide)
theorem W0 (h:c=8∨c=4):0<c:=by rcases h with rfl | rfl<;>decide
theorem Zm (h:c=8∨c=4):c≤8:=by rcases h with rfl | rfl<;>decide
theorem W2 {o n:Int} (a:0<o - -n):o*0-n*(1-0)<o*1-n*(1-1):=by lia
theorem W3 (h:m=min 6 (n+2)):2≤m:=h▸Nat.le_min.mpr ⟨by decide,Nat.le_add_left 2 n⟩
theorem R9 {i j:Int} : i+j-i=j:=Int.sub_eq_iff_eq_add'.mpr rfl
theorem W4 {i j:Int} : i+j-(i+j-i)=i:=Int.sub_sub_self (i+j) i
theorem VN {i j:Int} : j-(i+j-i)=0:=by rw [R9];exact Int.sub_self _
theorem W5 {i j:Int} : i-(i+j-(i+j-i))=0:=by rw [W4];exact Int.sub_self _
theorem W6 {i j:Int} : i-(i+j-(i+j-i))+(j-(i+j-i))=0:=by rw [W5,VN];rfl
theorem Lz {x y:Int} (e:x=y) (h:y.natAbs≤n) (k:n≤m):x.natAbs≤m:=e▸AJ h k
theorem Zn {a b c x n:Int} (h:a+b+c+x=n) (d:a=b) (g:a=c):n-x=3*a:=by subst d;subst g;rw [←h,Int.add_sub_cancel];lia
theorem Zo {a b:Int} (h:a<0↔b<0) (p:a≠0) (q:b≠0):0<a↔0<b:=⟨fun x=>Int.lt_iff_le_and_ne.mpr ⟨Int.not_lt.mp fun y=>Int.not_lt.mpr (Int.le_of_lt x) (h.mpr y),q.symm⟩,fun x=>Int.lt_iff_le_and_ne.mpr ⟨Int.not_lt.mp fun y=>Int.not_lt.mpr (Int.le_of_lt x) (h.mp y),p.symm⟩⟩
theorem W7 {x:Int} (h:x = -x):x=0:=by lia
theorem W8 {f n s r:Int} (h:r=s):16*(f-3-1)+8*(n+1+s)=8*(2*(f-3)+n-1+r):=by lia
theorem Zp {p o n:Int} (h:p=0∨p=1):p*(o*p-n*(1-p))=o*p:=by rcases h with rfl | rfl<;>lia
theorem Zq {p o n:Int} (h:p=0∨p=1):(1-p)*(o*p-n*(1-p)) = -n*(1-p):=by rcases h with rfl | rfl<;>lia
theorem Zr {f:Int} (g:0≤f) (h:f<(n:Int)-1) (k:n≤6):(1+f).toNat≤6:=Int.toNat_le.mpr (Int.le_trans (Int.add_le_add_left (Int.le_sub_one_of_lt h) 1) (Int.le_trans (by rw [Int.add_comm,Int.sub_add_cancel];exact Int.sub_le_self _ (by decide)) (Int.ofNat_le.mpr k)))
@[elab_as_elim] theorem df {i:Prop} {g:Sort _} {X:g} {t:g} {M:g→Prop} (h:i∧X=t) (k:i→M (t)):M X:=h.2▸k h.1
@[elab_as_elim] theorem W9 {i:Prop} {g:Sort _} {X:g} {t:g} {M:g→Prop} (h:X=t∧i) (k:i→M (t)):M X:=h.1▸k h.2
@[elab_as_elim] theorem Zs {i j:Prop} {g:Sort _} {X:g} {t:g} {M:g→Prop} (h:i∧j∧X=t) (k:i→j→M (t)):M X:=h.2.2▸k h.1 h.2.1
@[elab_as_elim] theorem Zt {i:Sort _} {m:i→Prop} {j:Sort _} {X:j} {t:i→j} {M:j→Prop} (h:∃ g,m g∧t g=X) (k:∀ g,m g→M (t g)):M X:=Exists.elim h fun g g1=>g1.2▸k g g1.1
@[elab_as_elim] theorem W' {j i:Prop} {g:Sort _} {X:g} {t:g} {M:g→Prop} (h:X=t∧j∧i) (k:j→i→M (t)):M X:=h.1▸k h.2.1 h.2.2
@[elab_as_elim] theorem XA {i:Sort _} {z m:i→Prop} {j:Sort _} {X:j} {t:i→j} {M:j→Prop} (h:∃ g,X=t g∧z g∧m g) (k:∀ g,z g→m g→M (t g)):M X:=Exists.elim h fun g g1=>g1.1▸k g g1.2.1 g1.2.2
@[elab_as_elim] theorem Nw {z I F H:Sort _} {K N L:z→I→F→H→Prop} {J:Sort _} {X:J} {t:J} {M:J→Prop} (h:X=t∧∃ i,∃ j,∃ g,∃ m,K i j g m∧N i j g m∧L i j g m) (k:∀ i,∀ j,∀ g,∀ m,K i j g m→N i j g m→L i j g m→M (t)):M X:=Exists.elim h.2 fun i g1=>Exists.elim g1 fun j Y=>Exists.elim Y fun g O=>Exists.elim O fun m G=>h.1▸k i j g m G.1 G.2.1 G.2.2
theorem Eg {a5 K Y L O Zu Zv Zw M:Sort _} {P5 P6:a5→K→Y→L→O→Prop} {N Z:a5→K→Y→L→O→Zu→Zv→Zw→M→Prop} {G:Prop} (h:∃ i,∃ z,∃ F,∃ j,∃ m,P5 i z F j m∧P6 i z F j m∧∃ I,∃ J,∃ H,∃ g,N i z F j m I J H g∧Z i z F j m I J H g) (k:∀ i,∀ z,∀ F,∀ j,∀ m,P5 i z F j m→P6 i z F j m→∀ I,∀ J,∀ H,∀ g,N i z F j m I J H g→Z i z F j m I J H g→G):G:=Exists.elim h fun i g1=>Exists.elim g1 fun z g2=>Exists.elim g2 fun F g3=>Exists.elim g3 fun j g4=>Exists.elim g4 fun m g5=>Exists.elim g5.2.2 fun I g6=>Exists.elim g6 fun J g7=>Exists.elim g7 fun H g8=>Exists.elim g8 fun g g9=>k i z F j m g5.1 g5.2.1 I J H g g9.1 g9.2
theorem Eh {b3 L b0 M a5 Zu Zv Zw N:Sort _} {P5 P6:b3→L→b0→M→a5→Prop} {Z b1 b4 a6 O Y b5 b2:b3→L→b0→M→a5→Zu→Zv→Zw→N→Prop} {G:Prop} (h:∃ i,∃ z,∃ F,∃ j,∃ m,P5 i z F j m∧P6 i z F j m∧∃ I,∃ J,∃ H,∃ g,Z i z F j m I J H g∧b1 i z F j m I J H g∧b4 i z F j m I J H g∧a6 i z F j m I J H g∧O i z F j m I J H g∧Y i z F j m I J H g∧b5 i z F j m I J H g∧b2 i z F j m I J H g) (k:∀ i,∀ z,∀ F,∀ j,∀ m,P5 i z F j m→P6 i z F j m→∀ I,∀ J,∀ H,∀ g,Z i z F j m I J H g→b1 i z F j m I J H g→b4 i z F j m I J H g→a6 i z F j m I J H g→O i z F j m I J H g→Y i z F j m I J H g→b5 i z F j m I J H g→b2 i z F j m I J H g→G):G:=Exists.elim h fun i g1=>Exists.elim g1 fun z g2=>Exists.elim g2 fun F g3=>Exists.elim g3 fun j g4=>Exists.elim g4 fun m g5=>Exists.elim g5.2.2 fun I g6=>Exists.elim g6 fun J g7=>Exists.elim g7 fun H g8=>Exists.elim g8 fun g K=>k i z F j m g5.1 g5.2.1 I J H g K.1 K.2.1 K.2.2.1 K.2.2.2.1 K.2.2.2.2.1 K.2.2.2.2.2.1 K.2.2.2.2.2.2.1 K.2.2.2.2.2.2.2
section
universe u v w x y
variable {A:Sort u} {B:Sort v} {C:Sort w} {D:Sort x} {E:Sort y} {o p q r s t u v x y:Prop}
theorem Bt (h:p∧q) (k:p→q→o):o:=k h.1 h.2
theorem CK (h:p∧q∧r) (k:p→q→r→o):o:=Bt h.2 (k h.1)
theorem FX (h:p∧q∧r∧s) (k:p→q→r→s→o):o:=CK h.2 (k h.1)
theorem PJ (h:p∧q∧r∧s∧t) (k:p→q→r→s→t→o):o:=FX h.2 (k h.1)
theorem JT (h:p∧q∧r∧s∧t∧u) (k:p→q→r→s→t→u→o):o:=PJ h.2 (k h.1)
theorem He (h:p∧q∧r∧s∧t∧u∧v) (k:p→q→r→s→t→u→v→o):o:=JT h.2 (k h.1)
theorem B2 (h:p)(i:q)(j:r):p∧q∧r:=⟨h,i,j⟩
theorem EX (h:p)(i:q)(j:r)(k:s):p∧q∧r∧s:=⟨h,i,j,k⟩
theorem Ei (h:p)(i:q)(j:r)(k:s)(l:t):p∧q∧r∧s∧t:=⟨h,i,j,k,l⟩
section
variable {P Q R S T U V W X:A→Prop}
theorem Ap (h:∃ a,P a) (k:∀ a,P a→o):o:=h.elim k
theorem XB (h:p∧∃ a,P a) (k:p→∀ a,P a→o):o:=Ap h.2 (k h.1)
theorem AF (h:∃ a,P a∧Q a) (k:∀ a,P a→Q a→o):o:=h.elim fun a g=>Bt g (k a)
theorem Mi (h:p∧∃ a,P a∧Q a) (k:p→∀ a,P a→Q a→o):o:=AF h.2 (k h.1)
theorem AY (h:∃ a,P a∧Q a∧R a) (k:∀ a,P a→Q a→R a→o):o:=h.elim fun a g=>CK g (k a)
theorem PK (h:p∧q∧∃ a,P a∧Q a) (k:p→q→∀ a,P a→Q a→o):o:=Mi h.2 (k h.1)
theorem JU (h:p∧∃ a,P a∧Q a∧R a) (k:p→∀ a,P a→Q a→R a→o):o:=AY h.2 (k h.1)
theorem Cy (h:∃ a,P a∧Q a∧R a∧S a) (k:∀ a,P a→Q a→R a→S a→o):o:=h.elim fun a g=>FX g (k a)
theorem AQ (a)(h:P a)(i:Q a):∃ a,P a∧Q a:=⟨a,h,i⟩
theorem Aj (a)(h:P a)(i:Q a)(j:R a):∃ a,P a∧Q a∧R a:=⟨a,h,i,j⟩
theorem PL (h:p)(a)(i:P a)(j:Q a)(k:R a):p∧∃ a,P a∧Q a∧R a:=⟨h,a,i,j,k⟩
theorem GZ (a)(h:P a)(i:Q a)(j:R a)(k:S a):∃ a,P a∧Q a∧R a∧S a:=⟨a,h,i,j,k⟩
end
section
variable {P Q R S T U V W X:A→B→Prop}
theorem Bj (h:∃ a b,P a b) (k:∀ a b,P a b→o):o:=h.elim fun a g=>Ap g (k a)
theorem Ul (h:p∧∃ a b,P a b) (k:p→∀ a b,P a b→o):o:=Bj h.2 (k h.1)
theorem XC {F:A→Prop} (h:∃ a,F a∧∃ b,P a b) (k:∀ a,F a→∀ b,P a b→o):o:=h.elim fun a g=>XB g (k a)
theorem CD (h:∃ a b,P a b∧Q a b) (k:∀ a b,P a b→Q a b→o):o:=h.elim fun a g=>AF g (k a)
theorem B0 {F:A→Prop} {G:A→Prop} (h:∃ a,F a∧G a∧∃ b,P a b) (k:∀ a,F a→G a→∀ b,P a b→o):o:=Exists.elim h fun a g0=>Exists.elim g0.2.2 fun b g1=>k a g0.1 g0.2.1 b g1
theorem AW (h:∃ a b,P a b∧Q a b∧R a b) (k:∀ a b,P a b→Q a b→R a b→o):o:=h.elim fun a g=>AY g (k a)
theorem R' {F:A→Prop} {G:A→Prop} (h:p∧∃ a,F a∧G a∧∃ b,P a b) (k:p→∀ a,F a→G a→∀ b,P a b→o):o:=B0 h.2 (k h.1)
theorem Fs (h:p∧∃ a b,P a b∧Q a b∧R a b) (k:p→∀ a b,P a b→Q a b→R a b→o):o:=AW h.2 (k h.1)
theorem CQ (h:∃ a b,P a b∧Q a b∧R a b∧S a b) (k:∀ a b,P a b→Q a b→R a b→S a b→o):o:=h.elim fun a g=>Cy g (k a)
theorem Ej (h:∃ a b,P a b∧Q a b∧R a b∧S a b∧T a b) (k:∀ a b,P a b→Q a b→R a b→S a b→T a b→o):o:=Exists.elim h fun a g0=>Exists.elim g0 fun b g1=>k a b g1.1 g1.2.1 g1.2.2.1 g1.2.2.2.1 g1.2.2.2.2
theorem DT (h:∃ a b,P a b∧Q a b∧R a b∧S a b∧T a b∧U a b) (k:∀ a b,P a b→Q a b→R a b→S a b→T a b→U a b→o):o:=Exists.elim h fun a g0=>Exists.elim g0 fun b g1=>k a b g1.1 g1.2.1 g1.2.2.1 g1.2.2.2.1 g1.2.2.2.2.1 g1.2.2.2.2.2
theorem EH (h:p∧∃ a b,P a b∧Q a b∧R a b∧S a b∧T a b∧U a b) (k:p→∀ a b,P a b→Q a b→R a b→S a b→T a b→U a b→o):o:=DT h.2 (k h.1)
theorem DB (a)(b)(h:P a b):∃ a b,P a b:=⟨a,b,h⟩
theorem Dj (a)(b)(h:P a b)(i:Q a b):∃ a b,P a b∧Q a b:=⟨a,b,h,i⟩
theorem PM (h:p)(a)(b)(i:P a b)(j:Q a b):p∧∃ a b,P a b∧Q a b:=⟨h,a,b,i,j⟩
theorem Cc {F:A→Prop} {G:A→Prop} (a)(h:F a)(i:G a)(b)(j:P a b):∃ a,F a∧G a∧∃ b,P a b:=⟨a,h,i,b,j⟩
theorem Bl (a)(b)(h:P a b)(i:Q a b)(j:R a b):∃ a b,P a b∧Q a b∧R a b:=⟨a,b,h,i,j⟩
theorem SA (h:p)(i:q)(a)(b)(j:P a b)(k:Q a b):p∧q∧∃ a b,P a b∧Q a b:=⟨h,i,a,b,j,k⟩
theorem SD {F:A→Prop} {G:A→Prop} (h:p)(a)(i:F a)(j:G a)(b)(k:P a b):p∧∃ a,F a∧G a∧∃ b,P a b:=⟨h,a,i,j,b,k⟩
theorem Mj (h:p)(a)(b)(i:P a b)(j:Q a b)(k:R a b):p∧∃ a b,P a b∧Q a b∧R a b:=⟨h,a,b,i,j,k⟩
theorem E9 (a)(b)(h:P a b)(i:Q a b)(j:R a b)(k:S a b):∃ a b,P a b∧Q a b∧R a b∧S a b:=⟨a,b,h,i,j,k⟩
theorem Hf (a)(b)(h:P a b)(i:Q a b)(j:R a b)(k:S a b)(l:T a b):∃ a b,P a b∧Q a b∧R a b∧S a b∧T a b:=⟨a,b,h,i,j,k,l⟩
theorem Cz (a)(b)(h:P a b)(i:Q a b)(j:R a b)(k:S a b)(l:T a b)(m:U a b):∃ a b,P a b∧Q a b∧R a b∧S a b∧T a b∧U a b:=⟨a,b,h,i,j,k,l,m⟩
theorem C0 (h:p)(a)(b)(i:P a b)(j:Q a b)(k:R a b)(l:S a b)(m:T a b)(n:U a b):p∧∃ a b,P a b∧Q a b∧R a b∧S a b∧T a b∧U a b:=⟨h,a,b,i,j,k,l,m,n⟩
end
section
variable {P Q R S T U V W X:A→B→C→Prop}
theorem Cg (h:∃ a b c,P a b c) (k:∀ a b c,P a b c→o):o:=h.elim fun a g=>Bj g (k a)
theorem VO {F:A→Prop} (h:∃ a,F a∧∃ b c,P a b c) (k:∀ a,F a→∀ b c,P a b c→o):o:=h.elim fun a g=>Ul g (k a)
theorem DZ (h:∃ a b c,P a b c∧Q a b c) (k:∀ a b c,P a b c→Q a b c→o):o:=h.elim fun a g=>CD g (k a)
theorem JV {F:A→B→Prop} {G:A→B→Prop} (h:∃ a b,F a b∧G a b∧∃ c,P a b c) (k:∀ a b,F a b→G a b→∀ c,P a b c→o):o:=h.elim fun a g=>B0 g (k a)
theorem BR (h:∃ a b c,P a b c∧Q a b c∧R a b c) (k:∀ a b c,P a b c→Q a b c→R a b c→o):o:=h.elim fun a g=>AW g (k a)
theorem D4 {F:A→Prop} (h:∃ a,F a∧∃ b c,P a b c∧Q a b c∧R a b c) (k:∀ a,F a→∀ b c,P a b c→Q a b c→R a b c→o):o:=h.elim fun a g=>Fs g (k a)
theorem CX (h:∃ a b c,P a b c∧Q a b c∧R a b c∧S a b c) (k:∀ a b c,P a b c→Q a b c→R a b c→S a b c→o):o:=h.elim fun a g=>CQ g (k a)
theorem Iq {F:A→Prop} (h:∃ a,F a∧∃ b c,P a b c∧Q a b c∧R a b c∧S a b c) (k:∀ a,F a→∀ b c,P a b c→Q a b c→R a b c→S a b c→o):o:=Exists.elim h fun a g0=>Exists.elim g0.2 fun b g1=>Exists.elim g1 fun c g=>k a g0.1 b c g.1 g.2.1 g.2.2.1 g.2.2.2
theorem DU (h:∃ a b c,P a b c∧Q a b c∧R a b c∧S a b c∧T a b c) (k:∀ a b c,P a b c→Q a b c→R a b c→S a b c→T a b c→o):o:=h.elim fun a g=>Ej g (k a)
theorem B9 (h:∃ a b c,P a b c∧Q a b c∧R a b c∧S a b c∧T a b c∧U a b c) (k:∀ a b c,P a b c→Q a b c→R a b c→S a b c→T a b c→U a b c→o):o:=h.elim fun a g=>DT g (k a)
theorem Kd (h:p∧∃ a b c,P a b c∧Q a b c∧R a b c∧S a b c∧T a b c∧U a b c) (k:p→∀ a b c,P a b c→Q a b c→R a b c→S a b c→T a b c→U a b c→o):o:=B9 h.2 (k h.1)
theorem G4 (h:∃ a b c,P a b c∧Q a b c∧R a b c∧S a b c∧T a b c∧U a b c∧V a b c) (k:∀ a b c,P a b c→Q a b c→R a b c→S a b c→T a b c→U a b c→V a b c→o):o:=Exists.elim h fun a g0=>Exists.elim g0 fun b g1=>Exists.elim g1 fun c g=>k a b c g.1 g.2.1 g.2.2.1 g.2.2.2.1 g.2.2.2.2.1 g.2.2.2.2.2.1 g.2.2.2.2.2.2
theorem Mk (a)(b)(c)(h:P a b c):∃ a b c,P a b c:=⟨a,b,c,h⟩
theorem VP (h:p)(a)(b)(c)(i:P a b c):p∧∃ a b c,P a b c:=⟨h,a,b,c,i⟩
theorem PN {F:A→Prop} (a)(h:F a)(b)(c)(i:P a b c):∃ a,F a∧∃ b c,P a b c:=⟨a,h,b,c,i⟩
theorem JW (a)(b)(c)(h:P a b c)(i:Q a b c):∃ a b c,P a b c∧Q a b c:=⟨a,b,c,h,i⟩
theorem FA (a)(b)(c)(h:P a b c)(i:Q a b c)(j:R a b c):∃ a b c,P a b c∧Q a b c∧R a b c:=⟨a,b,c,h,i,j⟩
theorem PO {F:A→Prop} (h:p)(a)(i:F a)(b)(c)(j:P a b c)(k:Q a b c):p∧∃ a,F a∧∃ b c,P a b c∧Q a b c:=⟨h,a,i,b,c,j,k⟩
theorem PQ {F:A→Prop} (a)(h:F a)(b)(c)(i:P a b c)(j:Q a b c)(k:R a b c):∃ a,F a∧∃ b c,P a b c∧Q a b c∧R a b c:=⟨a,h,b,c,i,j,k⟩
theorem CY (a)(b)(c)(h:P a b c)(i:Q a b c)(j:R a b c)(k:S a b c):∃ a b c,P a b c∧Q a b c∧R a b c∧S a b c:=⟨a,b,c,h,i,j,k⟩
theorem Ir (a)(b)(c)(h:P a b c)(i:Q a b c)(j:R a b c)(k:S a b c)(l:T a b c):∃ a b c,P a b c∧Q a b c∧R a b c∧S a b c∧T a b c:=⟨a,b,c,h,i,j,k,l⟩
theorem L0 {F:A→Prop} (a)(h:F a)(b)(c)(i:P a b c)(j:Q a b c)(k:R a b c)(l:S a b c)(m:T a b c):∃ a,F a∧∃ b c,P a b c∧Q a b c∧R a b c∧S a b c∧T a b c:=⟨a,h,b,c,i,j,k,l,m⟩
theorem C3 (a)(b)(c)(h:P a b c)(i:Q a b c)(j:R a b c)(k:S a b c)(l:T a b c)(m:U a b c):∃ a b c,P a b c∧Q a b c∧R a b c∧S a b c∧T a b c∧U a b c:=⟨a,b,c,h,i,j,k,l,m⟩
theorem G5 (h:p)(a)(b)(c)(i:P a b c)(j:Q a b c)(k:R a b c)(l:S a b c)(m:T a b c)(n:U a b c):p∧∃ a b c,P a b c∧Q a b c∧R a b c∧S a b c∧T a b c∧U a b c:=⟨h,a,b,c,i,j,k,l,m,n⟩
theorem G6 {F:A→Prop} (a)(h:F a)(b)(c)(i:P a b c)(j:Q a b c)(k:R a b c)(l:S a b c)(m:T a b c)(n:U a b c):∃ a,F a∧∃ b c,P a b c∧Q a b c∧R a b c∧S a b c∧T a b c∧U a b c:=⟨a,h,b,c,i,j,k,l,m,n⟩
theorem Ek (a)(b)(c)(h:P a b c)(i:Q a b c)(j:R a b c)(k:S a b c)(l:T a b c)(m:U a b c)(n:V a b c):∃ a b c,P a b c∧Q a b c∧R a b c∧S a b c∧T a b c∧U a b c∧V a b c:=⟨a,b,c,h,i,j,k,l,m,n⟩
end
section
variable {P Q R S T U V W X:A→B→C→D→Prop}
theorem Ft (h:∃ a b c d,P a b c d∧Q a b c d) (k:∀ a b c d,P a b c d→Q a b c d→o):o:=h.elim fun a g=>DZ g (k a)
theorem D5 (h:∃ a b c d,P a b c d∧Q a b c d∧R a b c d) (k:∀ a b c d,P a b c d→Q a b c d→R a b c d→o):o:=h.elim fun a g=>BR g (k a)
theorem Ax (h:∃ a b c d,P a b c d∧Q a b c d∧R a b c d∧S a b c d) (k:∀ a b c d,P a b c d→Q a b c d→R a b c d→S a b c d→o):o:=h.elim fun a g=>CX g (k a)
theorem El (h:∃ a b c d,P a b c d∧Q a b c d∧R a b c d∧S a b c d∧T a b c d∧U a b c d) (k:∀ a b c d,P a b c d→Q a b c d→R a b c d→S a b c d→T a b c d→U a b c d→o):o:=h.elim fun a g=>B9 g (k a)
theorem JX (h:p∧∃ a b c d,P a b c d∧Q a b c d∧R a b c d∧S a b c d∧T a b c d∧U a b c d) (k:p→∀ a b c d,P a b c d→Q a b c d→R a b c d→S a b c d→T a b c d→U a b c d→o):o:=El h.2 (k h.1)
theorem FY (h:∃ a b c d,P a b c d∧Q a b c d∧R a b c d∧S a b c d∧T a b c d∧U a b c d∧V a b c d∧W a b c d) (k:∀ a b c d,P a b c d→Q a b c d→R a b c d→S a b c d→T a b c d→U a b c d→V a b c d→W a b c d→o):o:=Exists.elim h fun a g0=>Exists.elim g0 fun b g1=>Exists.elim g1 fun c i=>Exists.elim i fun d g=>k a b c d g.1 g.2.1 g.2.2.1 g.2.2.2.1 g.2.2.2.2.1 g.2.2.2.2.2.1 g.2.2.2.2.2.2.1 g.2.2.2.2.2.2.2
theorem Ml (a)(b)(c)(d)(h:P a b c d)(i:Q a b c d):∃ a b c d,P a b c d∧Q a b c d:=⟨a,b,c,d,h,i⟩
theorem Hg (a)(b)(c)(d)(h:P a b c d)(i:Q a b c d)(j:R a b c d):∃ a b c d,P a b c d∧Q a b c d∧R a b c d:=⟨a,b,c,d,h,i,j⟩
theorem Ba (a)(b)(c)(d)(h:P a b c d)(i:Q a b c d)(j:R a b c d)(k:S a b c d):∃ a b c d,P a b c d∧Q a b c d∧R a b c d∧S a b c d:=⟨a,b,c,d,h,i,j,k⟩
theorem G7 (a)(b)(c)(d)(h:P a b c d)(i:Q a b c d)(j:R a b c d)(k:S a b c d)(l:T a b c d)(m:U a b c d):∃ a b c d,P a b c d∧Q a b c d∧R a b c d∧S a b c d∧T a b c d∧U a b c d:=⟨a,b,c,d,h,i,j,k,l,m⟩
theorem JY (h:p)(a)(b)(c)(d)(i:P a b c d)(j:Q a b c d)(k:R a b c d)(l:S a b c d)(m:T a b c d)(n:U a b c d):p∧∃ a b c d,P a b c d∧Q a b c d∧R a b c d∧S a b c d∧T a b c d∧U a b c d:=⟨h,a,b,c,d,i,j,k,l,m,n⟩
theorem IP (a)(b)(c)(d)(h:P a b c d)(i:Q a b c d)(j:R a b c d)(k:S a b c d)(l:T a b c d)(m:U a b c d)(n:V a b c d)(p:W a b c d):∃ a b c d,P a b c d∧Q a b c d∧R a b c d∧S a b c d∧T a b c d∧U a b c d∧V a b c d∧W a b c d:=⟨a,b,c,d,h,i,j,k,l,m,n,p⟩
end
section
variable {P Q R S T U V W X:A→B→C→D→E→Prop}
theorem Fu (h:∃ a b c d e,P a b c d e∧Q a b c d e) (k:∀ a b c d e,P a b c d e→Q a b c d e→o):o:=h.elim fun a g=>Ft g (k a)
theorem Ga (h:∃ a b c d e,P a b c d e∧Q a b c d e∧R a b c d e) (k:∀ a b c d e,P a b c d e→Q a b c d e→R a b c d e→o):o:=h.elim fun a g=>D5 g (k a)
theorem DC (h:∃ a b c d e,P a b c d e∧Q a b c d e∧R a b c d e∧S a b c d e∧T a b c d e) (k:∀ a b c d e,P a b c d e→Q a b c d e→R a b c d e→S a b c d e→T a b c d e→o):o:=Exists.elim h fun a g0=>Exists.elim g0 fun b g1=>Exists.elim g1 fun c i=>Exists.elim i fun d j=>Exists.elim j fun e g=>k a b c d e g.1 g.2.1 g.2.2.1 g.2.2.2.1 g.2.2.2.2
theorem Hh (h:∃ a b c d e,P a b c d e∧Q a b c d e∧R a b c d e∧S a b c d e∧T a b c d e∧U a b c d e∧V a b c d e∧W a b c d e) (k:∀ a b c d e,P a b c d e→Q a b c d e→R a b c d e→S a b c d e→T a b c d e→U a b c d e→V a b c d e→W a b c d e→o):o:=h.elim fun a g=>FY g (k a)
theorem It (a)(b)(c)(d)(e)(h:P a b c d e)(i:Q a b c d e)(j:R a b c d e):∃ a b c d e,P a b c d e∧Q a b c d e∧R a b c d e:=⟨a,b,c,d,e,h,i,j⟩
theorem L1 (a)(b)(c)(d)(e)(h:P a b c d e)(i:Q a b c d e)(j:R a b c d e)(k:S a b c d e):∃ a b c d e,P a b c d e∧Q a b c d e∧R a b c d e∧S a b c d e:=⟨a,b,c,d,e,h,i,j,k⟩
theorem Dk (a)(b)(c)(d)(e)(h:P a b c d e)(i:Q a b c d e)(j:R a b c d e)(k:S a b c d e)(l:T a b c d e):∃ a b c d e,P a b c d e∧Q a b c d e∧R a b c d e∧S a b c d e∧T a b c d e:=⟨a,b,c,d,e,h,i,j,k,l⟩
end
end
theorem B6 {k:Type _} {o:Option k} {a b:k} (e:o=some a) (h:o=some b):a=b:=Ai (e.symm.trans h)
section
variable {α:Type _} {P:α→Prop} {a b c d e f:α} {l:List α}
theorem Dh:∀ x∈([]:List α),P x:=fun z h=>absurd h List.not_mem_nil
theorem A0 (h:P a) (t:∀ x∈l,P x):∀ x∈a::l,P x:=List.forall_mem_cons.mpr ⟨h,t⟩
theorem D1:a∈a::l:=.head _
theorem R0:a∈b::a::l:=.tail _ D1
theorem We:a∈b::c::a::l:=.tail _ R0
theorem Ym:a∈b::c::d::a::l:=.tail _ We
theorem cL:a∈b::c::d::e::a::l:=.tail _ Ym
theorem cM (h:f∈l) {x:α} : f∈x::b::c::d::e::l:=.tail _ (.tail _ (.tail _ (.tail _ (.tail _ h))))
theorem dh (h:a≠b):a∉[b]:=fun m=>h (List.mem_singleton.mp m)
theorem Wf (h:a≠b) (k:a≠c):a∉[b,c]:=fun m=>(List.mem_cons.mp m).elim h (dh k)
end
theorem Ak {i:Type} {t:Sem i} {Q:i→Shared→Prop} (h:wpAny M A t (fun a s'=>s.toks≤s'.toks→Q a s') (fun e s'=>s.toks≤s'.toks→E e s') s):wpAny M A t Q E s:=wpAny_with_toks (Nat.le_refl _) h
abbrev PR:Program:=PySem.Challenge.pw_ij0066_01
set_option genSizeOf false in
set_option genInjectivity false in
inductive FV where
 |none
 |bool (b:Bool)
 |int (i:Int)
 |AS (x:UInt64)
noncomputable def BZ:FV→Value→Prop
 |.none,v=>v = .none
 |.bool b,v=>v = .bool b
 |.int i,v=>∃ t,v = .int i t
 |.AS x,v=>∃ t,v = .float x (t+1)
noncomputable def Dl:FV→Value→Prop
 |.none,v=>v = .none
 |.bool b,v=>v = .bool b
 |.int i,v=>∃ t,v = .int i t
 |.AS x,v=>∃ t,v = .float x t
theorem BZ.weak (h:BZ f v):Dl f v:=by
 induction f with
 |none=>exact h
 |bool=>exact h
 |int=>exact h
 |AS=>obtain⟨t,e⟩:=h;exact⟨_,e⟩
@[elab_as_elim] theorem Nx {x:UInt64} {a b:Value} {C:Value→Value→Prop} (e:BZ (.AS x) a) (k:BZ (.AS y) b) (h:∀ t u,C (.float x (t+1)) (.float y (u+1))):C a b:=e.elim fun t e=>k.elim fun u k=>e▸k▸h t u
@[elab_as_elim] theorem PS {x:UInt64} {y:Int} {a b:Value} {C:Value→Value→Prop} (e:BZ (.AS x) a) (k:BZ (.int y) b) (h:∀ t u,C (.float x (t+1)) (.int y u)):C a b:=e.elim fun t e=>k.elim fun u k=>e▸k▸h t u
@[elab_as_elim] theorem SE {x:Int} {a b:Value} {C:Value→Value→Prop} (e:BZ (.int x) a) (k:BZ (.AS y) b) (h:∀ t u,C (.int x t) (.float y (u+1))):C a b:=e.elim fun t e=>k.elim fun u k=>e▸k▸h t u
@[elab_as_elim] theorem Fv {x:Int} {y:Int} {a b:Value} {C:Value→Value→Prop} (e:BZ (.int x) a) (k:BZ (.int y) b) (h:∀ t u,C (.int x t) (.int y u)):C a b:=e.elim fun t e=>k.elim fun u k=>e▸k▸h t u
noncomputable def Al:List FV→List Value→Prop
 |[],[]=>True
 |f::fs,v::vs=>BZ f v∧Al fs vs
 |_,_=>False
theorem Al.ind {M:List FV→List Value→Prop} (n:M [] []) (c:∀ f v fs vs,BZ f v→Al fs vs→M fs vs→M (f::fs) (v::vs)):∀ {fs vs},Al fs vs→M fs vs:=fun {fs}=>by
 induction fs with
 |nil=>
  intro vs;induction vs with
  |nil=>exact fun z=>n
  |cons=>exact False.elim
 |cons f fs k=>
  intro vs;induction vs with
  |nil=>exact False.elim
  |cons v vs=>exact fun h=>c f v fs vs h.1 h.2 (k h.2)
theorem Al.length {fs vs} (h:Al fs vs):vs.length=fs.length:=h.ind (M:=fun fs vs=>vs.length=fs.length) rfl fun z z z z z z k=>congrArg Nat.succ k
theorem Al.append {fs vs Zx XD} (h:Al fs vs) (h':Al Zx XD):Al (fs++Zx) (vs++XD):=h.ind (M:=fun fs vs=>Al (fs++Zx) (vs++XD)) h' fun z z z z r z k=>⟨r,k⟩
theorem Al.get {fs vs} (h:Al fs vs):∀ {i:Nat} {v:Value},vs[i]? = some v→∃ f,fs[i]? = some f∧BZ f v:=
 h.ind (M:=fun fs vs=>∀ {i:Nat} {v:Value},vs[i]? = some v→∃ f,fs[i]? = some f∧BZ f v) (fun e=>nomatch e) fun f v fs vs r z k {i u} e=>by
  induction i with
  |zero=>exact⟨f,rfl,Ai e▸r⟩
  |succ i _=>exact k e
noncomputable def EI:List (Addr×Str):=[(447,"law.<locals>.<lambda>"),(435,"_law_line.<locals>.<lambda>"),(338,"covariance.<locals>.<genexpr>"),(423,"linear_regression.<locals>.<genexpr>")]
noncomputable def Cd:List Addr:=[447,435,338,423]
theorem Cn:EI.map (·.1)=Cd:=rfl
noncomputable def TabAt (h:Heap) (P:Addr) (q:Str):Prop:=
 ∃ ps:Array Value,h.get? P=some (tabObj ps)∧TriplesOk ps.toList∧∀ pos cv,codeAmong pos ps.toList=some cv→h.CodeRec cv q
set_option genSizeOf false in
set_option genInjectivity false in
structure Wd where
 w:World
 base:Heap
 led:List (Addr×Obj):=[]
 Bm:List Addr:=[]
abbrev MD (w:Wd):Model:=model PR w.w
noncomputable def Af (o:Obj):Prop:=∃ es ep,o.data = .dict es ep
structure Step (w:Wd) (s s':Shared):Prop where
 keep:∀ a o,a∉Cd→(w.base.get? a=none→¬Af o)→s.heap.get? a=some o→s'.heap.get? a=some o
 EZ:∀ a o,s.heap.get? a=some o→Af o→∃ sl,s'.heap.get? a=some { o with slots:=sl }
 grow:∀ P∈Cd,∀ ps:Array Value,s.heap.get? P=some (tabObj ps)→∃ more,s'.heap.get? P=some (tabObj (ps++more))
 tabs:(∀ p∈EI,TabAt s.heap p.1 p.2)→∀ p∈EI,TabAt s'.heap p.1 p.2
 os:s'.os=s.os
 gens:AllBare s.gens→AllBare s'.gens
 tk:s.toks≤s'.toks
theorem Step.refl (w:Wd) (s:Shared):Step w s s:=⟨fun z z z z e=>e,fun z o e z=>⟨o.slots,e⟩,fun z z k e=>⟨#[],by simpa using e⟩,fun h=>h,rfl,fun h=>h,Nat.le_refl _⟩
theorem Step.trans {a b c:Shared} (x:Step w a b) (y:Step w b c):Step w a c:=
 ⟨fun p o n d e=>y.keep p o n d (x.keep p o n d e),fun p o e d=>by
  refine Ap (x.EZ p o e d) fun z g=>?_;refine Ap (y.EZ p _ g d) fun sl' k=>?_;exact⟨sl',k⟩,fun P i j e=>by
  refine Ap (x.grow P i j e) fun m g=>?_;refine Ap (y.grow P i _ g) fun m' k=>?_;exact⟨m++m',by rw [k,Array.append_assoc]⟩,fun h=>y.tabs (x.tabs h),y.os.trans x.os,fun h=>y.gens (x.gens h),AJ x.tk y.tk⟩
theorem TabAt.keeps {P:Addr} (x:TabAt h P q) (k:∀ b o,h.get? b=some o→h'.get? b=some o):TabAt h' P q:=
 AY (x) fun g e t c=>(Aj g (k _ _ e) t (fun pos i j=>(c pos i j).keeps k))
theorem Step.of_keeps {t:Nat} (k:∀ b o,s.heap.get? b=some o→h'.get? b=some o) (g:autoParam (s.toks≤t) Nt):Step w s { s with heap:=h',toks:=t }:=
 ⟨fun a o z z e=>k a o e,fun a o e z=>⟨o.slots,k a o e⟩,fun z z j e=>⟨#[],by simpa using k _ _ e⟩,fun h p i=>(h p i).keeps k,rfl,fun h=>h,g⟩
theorem Step.toks (s:Shared) (t:Nat) (h:autoParam (s.toks≤t) Nt):Step w s { s with toks:=t }:=Step.of_keeps (h':=s.heap) (fun z z e=>e) h
theorem Step.Bu (s:Shared):Step w s { s with toks:=s.toks+1 }:=Step.toks s _
theorem Step.push (s:Shared) (o:Obj):Step w s { s with heap:=s.heap.push o }:=Step.of_keeps (t:=s.toks) fun z z e=>Br o e
structure GH (w:Wd) (h:Heap):Prop where
 Ke:(K0 w.w.params).In w.base
 kin:(K0 w.w.params).In h
 g:∃ mg,h.Ns mainGlobals mg
 b:∃ mb:Str→Option Value,h.Ns builtinsNs mb∧∀ x:Str,x≠"__name__"→mb x=bootBuiltins x
 nolimit:h.NoLimit
 Fx:∃ mc,h.Ns cStatics mc∧mc "thirdparty.any" = none
 told:∃ mc,h.Ns cStatics mc∧mc sharingNotToldKey=none
 bmain:∃ mg bm ob,h.Ns mainGlobals mg∧mg "__builtins__" = some (.ref bm)∧bm≠builtinsNs∧h.get? bm=some ob∧ob.cls = .type "module"∧ob.dict=some builtinsNs∧ob.data = .plain
 tabs:∀ p∈EI,TabAt h p.1 p.2
 sub:∀ a o,w.base.get? a=some o→∃ o',h.get? a=some o'
 led:∀ p∈w.led,h.get? p.1=some p.2∧p.2.cls≠.none∧¬Af p.2
 Bm:∀ d∈w.Bm,∃ sl,h.get? d=some { cls:=.type "dict",data:=.dict #[],slots:=sl }
noncomputable def Co (o:Obj):Prop:=∃ ps,o=tabObj ps
theorem GH.off (G:GH w h) {o:Obj} (e:h.get? a=some o) (n:¬Co o):a∉Cd:=fun q=>by
 rw [←Cn]at q;refine AF (List.mem_map.mp q) fun p j k=>?_;obtain rfl:=k;refine AF (G.tabs p j) fun i g z=>?_;rw [e]at g;exact n ⟨i,Ai g⟩
theorem As {o:Obj} (h:o.cls≠.none):¬Co o:=fun k=>Ap (k) fun z e=>h (by rw [e])
theorem Em {o:Obj} {v} (h:o.data = .cell v):¬Co o:=fun q=>Ap q fun k e=>by rw [e]at h;injection h
theorem Ab {o:Obj} {xs n} (h:o.data = .seq xs n):¬Co o:=fun q=>Ap q fun k e=>by rw [e]at h;injection h
theorem Kf {o:Obj} {v} (h:o.data = .cell v):¬Af o:=fun k=>Bj (k) fun z z e=>by injection (e.symm.trans h)
theorem AG {o:Obj} {xs n} (h:o.data = .seq xs n):¬Af o:=fun q=>Bj q fun z z e=>by injection (e.symm.trans h)
theorem AR {o:Obj} {vs} (h:o.data = .fields vs):¬Af o:=fun q=>Bj q fun z z e=>by injection (e.symm.trans h)
theorem JZ {o:Obj} (h:o.data = .plain):¬Af o:=fun q=>Bj q fun z z e=>by injection (e.symm.trans h)
section
variable {w:Wd} {s s':Shared}
theorem Step.get (x:Step w s s') (G:GH w s.heap) {o:Obj} (e:s.heap.get? a=some o) (n:¬Co o) (d:¬Af o):s'.heap.get? a=some o:=x.keep a o (G.off e n) (fun z=>d) e
theorem Step.ns (x:Step w s s') {m} (h:s.heap.Ns a m):s'.heap.Ns a m:=
 BR (h) fun o es k e d r=>Ap (x.EZ a o e (DB es k d)) fun z g=>(FA _ es k g d r)
theorem Step.cell (x:Step w s s') (G:GH w s.heap) {v} (h:s.heap.IsCell a v):s'.heap.IsCell a v:=
 AF (h) fun o e d=>(AQ o (x.get G e (Em d) (Kf d)) d)
theorem Step.list (x:Step w s s') (G:GH w s.heap) {vs} (h:s.heap.IsList a vs):s'.heap.IsList a vs:=
 B0 (h) fun o e c n d=>(Cc o (x.get G e (Ab d) (AG d)) c n d)
theorem Step.Um (x:Step w s s') (G:GH w s.heap) {vs} (h:s.heap.PlainList a vs):s'.heap.PlainList a vs:=
 Ap (h) fun n e=>⟨n,x.get G e (Ab rfl) (AG rfl)⟩
theorem VQ {w:World} {o:Obj} (e:(K0 w.params).lookup a=some o):a∉Cd:=fun q=>by
 simp only [Cd,List.mem_cons,List.not_mem_nil,or_false]at q;rcases q with rfl | rfl | rfl | rfl<;>(have h:none=some o:=e)<;>injection h
theorem Step.there (x:Step w s s') (G:GH w s.heap) {o:Obj} (e:s.heap.get? a=some o):∃ o',s'.heap.get? a=some o':=by
 by_cases h:Af o
 ·refine Ap (x.EZ a o e h) fun F g=>?_;exact⟨_,g⟩
 ·by_cases n:a∈Cd
  ·have q:=n;rw [←Cn]at q;refine AF (List.mem_map.mp q) fun p z k=>?_;obtain rfl:=k;refine AF (G.tabs p z) fun j g y=>?_;refine Ap (x.grow _ n j g) fun m i=>?_;exact⟨_,i⟩
  ·exact⟨o,x.keep a o n (fun y=>h) e⟩
theorem Step.gone (x:Step w s s') (G:GH w s.heap) (e:s'.heap.get? a=none):s.heap.get? a=none:=by
 cases h:s.heap.get? a with
 |none=>rfl
 |some o=>obtain⟨o',k⟩:=x.there G h;injection (e.symm.trans k)
theorem Step.gh (x:Step w s s') (G:GH w s.heap):GH w s'.heap where
 Ke:=G.Ke
 kin:=fun a o e=>x.keep a o (VQ e) (fun n=>by injection ((G.Ke a o e).symm.trans n)) (G.kin a o e)
 g:=Ap (G.g) fun j h=>⟨j,x.ns h⟩
 b:=AF (G.b) fun z h r=>(AQ z (x.ns h) r)
 nolimit:=AF (G.nolimit) fun k h r=>(AQ k (x.ns h) r)
 Fx:=AF (G.Fx) fun k h r=>(AQ k (x.ns h) r)
 told:=AF (G.told) fun k h r=>(AQ k (x.ns h) r)
 bmain:=G4 (G.bmain) fun j F H h e n m c d p=>(Ek j F H (x.ns h) e n (x.get G m (As (by rw [c];exact fun q=>nomatch q)) (JZ p)) c d p)
 tabs:=x.tabs G.tabs
 sub:=fun a o e=>Ap (G.sub a o e) fun y i=>x.there G i
 led:=fun p I=>CK (G.led p I) fun e c d=>(B2 (x.get G e (As c) d) c d)
 Bm:=fun d hd=>Ap (G.Bm d hd) fun y e=>Ap (x.EZ d _ e (DB _ _ rfl)) fun sl' i=>⟨sl',i⟩
end
noncomputable def CT (base h:Heap):List Env→Prop
 |[]=>True
 |env::rest=>env.scope.kind≠.module∧(∃ L o,env.frame=some L∧base.get? L=none∧h.get? L=some o∧Af o)∧CT base h rest
theorem CT.fun {base:Heap} {l:List Env} : CT base h l→h.FunFrames base l:=by
 induction l with
 |nil=>exact fun z=>trivial
 |cons a l k=>exact fun H=>CQ (H.2.1) fun L o f n e d=>Bj (d) fun z z d=>⟨H.1,⟨L,o,f,n,e,fun vs q=>by injection (d.symm.trans q)⟩,k H.2.2⟩
theorem CT.EZ {base:Heap} (x:∀ a o,base.get? a=none→h.get? a=some o→Af o→∃ o',h'.get? a=some o'∧Af o') {l:List Env} : CT base h l→CT base h' l:=by
 induction l with
 |nil=>exact fun z=>trivial
 |cons a l g=>exact fun H=>CQ (H.2.1) fun L o f n e d=>AF (x L o n e d) fun o' k i=>⟨H.1,⟨L,o',f,n,k,i⟩,g H.2.2⟩
theorem CT.step (x:Step w s s') {l:List Env} (f:CT w.base s.heap l):CT w.base s'.heap l:=
 f.EZ fun a o z e d=>let⟨_,e'⟩:=x.EZ a o e d;(AQ _ e' d)
structure BS (w:Wd) (n:Nat) (A:Around) (s:Shared):Prop where
 h:A.handled=none
 d:A.depth+n≤900
 u:A.units+20*n≤9000
 f:∃ l,A.frames=some l∧CT w.base s.heap l
 tk:0<s.toks
theorem BS.mono {w n m A s} (x:BS w n A s) (k:m≤n):BS w m A s:=⟨x.h,AJ (Nat.add_le_add_left k _) x.d,AJ (Nat.add_le_add_left (Nat.mul_le_mul_left 20 k) _) x.u,x.f,x.tk⟩
theorem BS.step {w n A} (k:BS w n A s) (x:Step w s s'):BS w n A s':=⟨k.h,k.d,k.u,AF (k.f) fun l a b=>⟨l,a,b.step x⟩,Nat.lt_of_lt_of_le k.tk x.tk⟩
theorem D6 {x:UInt64} (h:0<t):BZ (.AS x) (.float x t):=⟨t-1,by rw [Nat.sub_add_cancel h]⟩
set_option genSizeOf false in
inductive PV where
 |fv (f:FV)
 |list (xs:List FV)
 |str (x:Str)
 |line (a b:UInt64)
 |raw (v:Value)
 |BN (ns:List Int)
noncomputable def PT (vs:List Value):Prop:=∀ u∈vs,∀ v∈vs,∀ i t j r,u = .int i t→v = .int j r→t≠0∧(t=r→i=j)
noncomputable def PV.Fy:PV→Bool
 |.raw _=>true
 |_=>false
noncomputable def BA (h:Heap):PV→Value→Prop
 |.fv f,v=>BZ f v
 |.list xs,v=>∃ a vs,v = .ref a∧h.IsList a vs.toArray∧Al xs vs
 |.str x,v=>∃ t,v = .str x t
 |.raw u,v=>v=u
 |.BN ns,v=>∃ a vs,v = .ref a∧h.IsList a vs.toArray∧Al (ns.map .int) vs∧PT vs
 |.line x y,v=>∃ a o t u n,v = .ref a∧h.get? a=some o∧o.cls = .ref 417∧True∧o.data = .seq #[.float x (t+1),.float y (u+1)] n
theorem BA.step (x:Step w s s') (G:GH w s.heap) {pv v} : BA s.heap pv v→BA s'.heap pv v:=by
 induction pv with
 |fv _=>exact id
 |str _=>exact id
 |raw _=>exact id
 |list _=>exact fun h=>AW (h) fun a vs e l r=>Bl a vs e (x.list G l) r
 |BN _=>exact fun h=>AW (h) fun a vs e l r=>Bl a vs e (x.list G l) r
 |line _ _=>exact fun h=>Ga (h) fun a o t u n e g r=>L1 a o t u n e (x.get G g (As (by rw [r.1];exact fun q=>nomatch q)) (AG r.2.2)) r.1 r.2
set_option genSizeOf false in
set_option genInjectivity false in
structure BC where
 nm:List (Str×NameKind)
 cd:Value
 ql:Str
abbrev BC.lookup (n:BC) (x:Str):Option NameKind:=n.nm.lookup x
structure D7 (names:BC) (env:Env):Prop where
 nm:env.scope.names=names.nm
 cd:env.code=names.cd
 ql:env.qual=names.ql
 kd:env.scope.kind = .function
 gl:env.globals=mainGlobals
 bi:env.builtins=builtinsNs
noncomputable def AZ (h:Heap) (env:Env) (x:Str) (v:Value):Prop:=
 match env.kindOf x with
 |some .local=>∃ m,h.Ns env.locals m∧m x=some v
 |some .cell=>∃ c,env.cells.lookup x=some c∧h.IsCell c (some v)
 |some .free=>∃ c,env.cells.lookup x=some c∧h.IsCell c (some v)
 |_=>False
theorem AZ.el {y:Str} {G:Prop} (k:AZ h env y v) (a:env.kindOf y=some .local→∀ m,h.Ns env.locals m→m y=some v→G) (b:env.kindOf y=some .cell→∀ c,env.cells.lookup y=some c→h.IsCell c (some v)→G) (d:env.kindOf y=some .free→∀ c,env.cells.lookup y=some c→h.IsCell c (some v)→G):G:=by
 unfold AZ at k;generalize env.kindOf y=u at k a b d;cases u with
 |none=>exact k.elim
 |some u=>cases u with
  |«local»=>exact AF k (a rfl)
  |cell=>exact AF k (b rfl)
  |free=>exact AF k (d rfl)
  |_=>exact k.elim
theorem AZ.ml {y:Str} (q:env.kindOf y=some .local) (k:∃ m,h.Ns env.locals m∧m y=some v):AZ h env y v:=by
 unfold AZ;rw [q];exact k
theorem AZ.mc {y:Str} (q:env.kindOf y=some .cell∨env.kindOf y=some .free) (k:∃ c,env.cells.lookup y=some c∧h.IsCell c (some v)):AZ h env y v:=by
 unfold AZ;rcases q with q | q<;>(rw [q];exact k)
theorem AZ.tr {y:Str} (k:AZ h env y v) (a:env.kindOf y=some .local→∀ m,h.Ns env.locals m→m y=some v→∃ m',h'.Ns env.locals m'∧m' y=some v) (e:∀ c,env.cells.lookup y=some c→h.IsCell c (some v)→h'.IsCell c (some v)):AZ h' env y v:=
 k.el (fun q m i g=>.ml q (a q m i g)) (fun q c i j=>.mc (.inl q) (AQ c i (e c i j))) fun q c i j=>.mc (.inr q) (AQ c i (e c i j))
theorem AZ.step (x:Step w s s') (G:GH w s.heap) {n:Str} (h:AZ s.heap env n v):AZ s'.heap env n v:=
 h.tr (fun z m a b=>AQ m (x.ns a) b) fun z z b=>x.cell G b
abbrev PE:=Str→Option PV
noncomputable def PE.set (pe:PE) (x:Str) (v:PV):PE:=fun y=>if y=x then some v else pe y
structure Cx (w:Wd) (names:BC) (n:Nat) (A:Around) (env:Env) (s:Shared) (pe:PE):Prop where
 eo:D7 names env
 gh:GH w s.heap
 ok:BS w n A s
 vars:∀ x pv,pe x=some pv→∃ v,AZ s.heap env x v∧BA s.heap pv v
theorem Cx.step {w names n A env s s' pe} (C:Cx w names n A env s pe) (x:Step w s s'):Cx w names n A env s' pe:=
 ⟨C.eo,x.gh C.gh,C.ok.step x,fun n pv e=>AF (C.vars n pv e) fun v a b=>⟨v,a.step x C.gh,b.step x C.gh⟩⟩
noncomputable def Ev (w:Wd) (names:BC) (n:Nat) (pe:PE) (e:Expr) (pv:PV):Prop:=
 ∀ (A:Around) (env:Env) (s:Shared) (Q:Value→Shared→Prop) (E:Value→Shared→Prop),Cx w names n A env s pe→
  (∀ v s',Step w s s'→BA s'.heap pv v→Q v s')→wpAny (MD w) A (eval e env) Q E s
noncomputable def Tr (w:Wd) (names:BC) (n:Nat) (pe:PE) (e:Expr) (b:Bool):Prop:=
 ∀ (A:Around) (env:Env) (s:Shared) (Q:Bool→Shared→Prop) (E:Value→Shared→Prop),Cx w names n A env s pe→
  (∀ s',Step w s s'→Q b s')→wpAny (MD w) A (isTrue e env (eval e env)) Q E s
section
variable {w:Wd} {names:BC} {n:Nat} {pe:PE}
theorem AV (i:Int) (k pos):Ev w names n pe (.Constant (.int i) k pos) (.fv (.int i)):=fun z z s z z z h=>wpAny_Constant_int (h _ _ (Step.Bu s) ⟨_,rfl⟩)
theorem Bw (k pos):Ev w names n pe (.Constant .none k pos) (.fv .none):=fun z z s z z z h=>wpAny_Constant_none (h _ _ (Step.refl w s) rfl)
theorem B' (b:Bool) (k pos):Ev w names n pe (.Constant (.bool b) k pos) (.fv (.bool b)):=fun z z s z z z h=>wpAny_Constant_bool (h _ _ (Step.refl w s) rfl)
theorem VR (x:Str) (k pos):Ev w names n pe (.Constant (.str x) k pos) (.str x):=fun z z s z z z h=>Constant_str (h _ _ (Step.Bu s) ⟨_,rfl⟩)
theorem PU (x:UInt64) (k pos):Ev w names n pe (.Constant (.float x) k pos) (.fv (.AS x)):=fun z z s z z C h=>fun z z z=>h _ _ (Step.Bu s) (D6 C.ok.tk)
theorem AA {x:Str} (g:pe x=some pv) (hd:autoParam ((x==("__debug__" : Str))=false) B8) (j:autoParam ((x==("__classdict__" : Str))=false) B8):Ev w names n pe (.Name x pos) pv:=fun A env s Q E C h=>by
 refine AF (C.vars x pv g) fun v a b=>?_;refine wpAny_Name ?_ hd;exact a.el (fun e m i k=>wpAny_loadName_local C.eo.kd e i k (h _ _ (Step.refl w s) b)) (fun e c hl k=>wpAny_loadName_cell C.eo.kd e hl k (h _ _ (Step.refl w s) b)) fun e c hl k=>wpAny_loadName_free C.eo.kd e hl k (h _ _ (Step.refl w s) b) j
end
noncomputable def D2 (w:Wd) (op:Operator) (a b c:FV):Prop:=∀ (A:Around) (s:Shared) (Q:Value→Shared→Prop) (E:Value→Shared→Prop) (va vb:Value),
 A.handled=none→0<s.toks→BZ a va→BZ b vb→(∀ v,BZ c v→Q v { s with toks:=s.toks+1 })→wpAny (MD w) A (binaryOp op va vb) Q E s
noncomputable def R1 (w:Wd) (op:CmpOp) (a b:FV) (c:Bool):Prop:=∀ (A:Around) (s:Shared) (Q:Value→Shared→Prop) (E:Value→Shared→Prop) (va vb:Value),
 BS w 0 A s→BZ a va→BZ b vb→(∀ tk,s.toks≤tk→Q (.bool c) { s with toks:=tk })→wpAny (MD w) A (compareOp op va vb) Q E s
noncomputable def SF (w:Wd) (op:Operator) (a b c:FV):Prop:=∀ (A:Around) (s:Shared) (Q:Value→Shared→Prop) (E:Value→Shared→Prop) (va vb:Value),
 A.handled=none→BZ a va→BZ b vb→(∀ v,Dl c v→Q v { s with toks:=s.toks+1 })→wpAny (MD w) A (binaryOp op va vb) Q E s
noncomputable def qf (a b:Int):UInt64:=Float64.ofFrac (decide (a<0) != decide (b<0)) a.natAbs b.natAbs
section
variable {w:Wd} {i j:Int} {x y:UInt64} {p q:Bool}
theorem En:D2 w .Add (.int i) (.int j) (.int (i+j)):=fun A s Q E b g a c e k h=>Fv e k fun t u=>PyProof.Rows.add_int (h _ ⟨_,rfl⟩)
theorem CL:D2 w .Sub (.int i) (.int j) (.int (i-j)):=fun A s Q E b g a c e k h=>Fv e k fun t u=>PyProof.Rows.sub_int (h _ ⟨_,rfl⟩)
theorem BO (k:IntMulOk i j):D2 w .Mult (.int i) (.int j) (.int (i*j)):=fun A s Q E c a b d g e h=>Fv g e fun t u=>PyProof.Rows.mul_int (h _ ⟨_,rfl⟩) k
theorem Fc (g:j≠0) (hl:j.natAbs<1073741824):D2 w .Mod (.int i) (.int j) (.int (i.fmod j)):=fun A s Q E c a b d e k h=>Fv e k fun t u=>PyProof.Rows.mod_int g (h _ ⟨_,rfl⟩)
theorem Ja (g:j≠0) (hl:j.natAbs<1073741824):D2 w .FloorDiv (.int i) (.int j) (.int (i.fdiv j)):=fun A s Q E c a b d e k h=>Fv e k fun t u=>PyProof.Rows.floordiv_int g (h _ ⟨_,rfl⟩) (.inl (PyProof.noPylong_small hl))
theorem XE (e:i.natAbs<2^20):D2 w .Pow (.int i) (.int 2) (.int (i*i)):=fun A s Q E d b c f ⟨t,a⟩ ⟨u,g⟩ h=>by
 subst a g;refine PyProof.Rows.pow_int (Int.zero_le_ofNat 2) ?_ (h _ ⟨_,by refine AB (show((2:Int).toNat)=2 from rfl) ?_;refine AB (Int.pow_succ ..) ?_;refine AB (Int.pow_succ ..) ?_;refine AB (Int.pow_zero ..) ?_;refine AB (Int.one_mul ..) ?_;rfl⟩);have:=PySem.intBits_le_64 (k:=i) (by exact VL e (DY rfl)) (by exact Kc e (DY rfl));lia
theorem Jb:D2 w .Sub (.bool p) (.bool q) (.int (b2i p-b2i q)):=fun A s Q E b g a c e k h=>by refine AB e ?_;refine AB k ?_;exact PyProof.Rows.sub_bool (h _ ⟨_,rfl⟩)
theorem Jc (b:j≠0) (k:i.natAbs<2^1023):D2 w .Div (.int i) (.int j) (.AS (qf i j)):=fun A s Q E f d e c a g h=>Fv a g fun t u=>PySem.Flt.div_ii_fits e k (fun z=>absurd z b) fun y y=>h _ (D6 c)
theorem DD (b:j≠0) (k:¬PySem.Flt.Over j):D2 w .Div (.AS x) (.int j) (.AS (Float64.div x (Float64.ofInt j))):=fun A s Q E f d e c a g h=>PS a g fun t u=>PySem.Flt.truediv_fi e (fun z=>absurd z k) (fun z=>absurd z b) fun y y=>h _ (D6 c)
theorem PW (k:¬Float64.isZero y=true) (e:¬PySem.Flt.Over i):D2 w .Div (.int i) (.AS y) (.AS (Float64.div (Float64.ofInt i) y)):=fun A s Q E f d g c b a h=>SE b a fun t u=>PySem.Flt.truediv_if g (fun z=>absurd z e) (fun x z=>absurd z k) fun x x=>h _ (D6 c)
theorem F0 (k:¬Float64.isZero y=true):D2 w .Div (.AS x) (.AS y) (.AS (Float64.div x y)):=fun A s Q E d c e b a g h=>Nx a g fun t u=>PyProof.Rows.truediv_float_or e (fun z=>absurd z k) fun v=>h _ (D6 b)
theorem Hi:D2 w .Add (.AS x) (.AS y) (.AS (Float64.add x y)):=fun A s Q E c a b g e k h=>Nx e k fun t u=>PyProof.Rows.add_float (h _ (D6 g))
theorem Kg:D2 w .Sub (.AS x) (.AS y) (.AS (Float64.sub x y)):=fun A s Q E c a b g e k h=>Nx e k fun t u=>PyProof.Rows.sub_float (h _ (D6 g))
theorem F4:D2 w .Mult (.AS x) (.AS y) (.AS (Float64.mul x y)):=fun A s Q E c a b g e k h=>Nx e k fun t u=>PyProof.Rows.mul_float (h _ (D6 g))
theorem Iu (k:i.natAbs<2^1023):D2 w .Add (.int i) (.AS y) (.AS (Float64.add (Float64.ofInt i) y)):=fun A s Q E d b c a g e h=>SE g e fun t u=>PyProof.Rows.add_if_fits k (h _ (D6 a))
theorem PY (k:j.natAbs<2^1023):D2 w .Sub (.AS x) (.int j) (.AS (Float64.sub x (Float64.ofInt j))):=fun A s Q E d b c a g e h=>PS g e fun t u=>PyProof.Rows.sub_fi_fits k (h _ (D6 a))
theorem PZ (k:i.natAbs<2^1023):D2 w .Sub (.int i) (.AS y) (.AS (Float64.sub (Float64.ofInt i) y)):=fun A s Q E d b c a g e h=>SE g e fun t u=>PyProof.Rows.sub_if_fits k (h _ (D6 a))
theorem Cv:R1 w .Eq (.int i) (.int j) (i==j):=fun A s Q E b g a e k h=>Fv e k fun t u=>Ak (PyProof.Rows.eq_int (h _))
theorem Hj:R1 w .NotEq (.int i) (.int j) (i != j):=fun A s Q E b g a e k h=>Fv e k fun t u=>Ak (PyProof.Rows.ne_int (h _))
theorem Hk:R1 w .Lt (.int i) (.int j) (decide (i<j)):=fun A s Q E b g a e k h=>Fv e k fun t u=>Ak (PyProof.Rows.lt_int (h _))
theorem Un:R1 w .Gt (.int i) (.int j) (decide (j<i)):=fun A s Q E b g a e k h=>Fv e k fun t u=>Ak (PyProof.Rows.gt_int (h _))
theorem SG:R1 w .Gt (.AS x) (.int j) (Float64.cmpInt x j==some Ordering.gt):=fun A s Q E b g a e k h=>PS e k fun t u=>Ak (PyProof.Rows.gt_fi (h _))
theorem SH:R1 w .Lt (.AS x) (.int j) (Float64.cmpInt x j==some Ordering.lt):=fun A s Q E b g a e k h=>PS e k fun t u=>Ak (PyProof.Rows.lt_fi (h _))
theorem SI:R1 w .NotEq (.AS x) (.AS y) (Float64.cmp x y != some Ordering.eq):=fun A s Q E b g a e k h=>Nx e k fun t u=>Ak (AutoFloatOps.ne_0 (h _))
end
noncomputable def Ce:FV→Bool
 |.none=>false
 |.bool b=>b
 |.int i=>i != 0
 |.AS x=>!Float64.isZero x
theorem Iv {Q:Bool→Shared→Prop} (k:BZ f v) (h:Q (Ce f) s):wpAny (MD w) A (truthy v) Q E s:=by
 induction f with
 |none=>refine AB k ?_;exact PyProof.Rows.truthy_none h
 |bool=>refine AB k ?_;exact wpAny_truthy_bool h
 |int=>obtain⟨t,e⟩:=k;refine AB e ?_;exact PyProof.Rows.truthy_int h
 |AS=>obtain⟨t,e⟩:=k;refine AB e ?_;exact truthy_float h
section
variable {w:Wd} {names:BC} {n:Nat} {pe:PE}
theorem AI {l r:Expr} {op:Operator} {a b c:FV} (hl:Ev w names n pe l (.fv a)) (o:Ev w names n pe r (.fv b)) (m:D2 w op a b c):Ev w names n pe (.BinOp l op r pos) (.fv c):=
 fun A env s Q E C h=>wpAny_BinOp (hl A env s _ E C fun u s₁ k d=>o A env s₁ _ E (C.step k) fun f g e t=>
  m A g _ E u f ((C.step k).step e).ok.h ((C.step k).step e).ok.tk d t fun v z=>h v _ ((k.trans e).trans (Step.Bu _)) z)
theorem C4 {l r:Expr} {op:CmpOp} {a b:FV} {c:Bool} (hl:Ev w names n pe l (.fv a)) (u:Ev w names n pe r (.fv b)) (t:R1 w op a b c) (o:autoParam (behindInMarks op r=false) Y7) :
  Ev w names n pe (.Compare l [op] [r] pos) (.fv (.bool c)):=
 fun A env s Q E C h=>wpAny_Compare1 (hl A env s _ E C fun z s₁ k d=>u A env s₁ _ E (C.step k) fun f g e v=>
  t A g _ E z f (((C.step k).step e).ok.mono (Nat.zero_le _)) d v fun tk m=>h _ _ ((k.trans e).trans (Step.toks _ tk m)) rfl) o
theorem BU {l r:Expr} {op:CmpOp} {a b:FV} {c:Bool} (hl:Ev w names n pe l (.fv a)) (u:Ev w names n pe r (.fv b)) (t:R1 w op a b c) (o:autoParam (behindInMarks op r=false) Y7) :
  Tr w names n pe (.Compare l [op] [r] pos) c:=
 fun A env s Q E C h=>wpAny_isTrue_Compare1 (hl A env s _ E C fun z s₁ k d=>u A env s₁ _ E (C.step k) fun f g e v=>
  t A g _ E z f (((C.step k).step e).ok.mono (Nat.zero_le _)) d v fun tk m=>wpAny_truthy_bool (h _ ((k.trans e).trans (Step.toks _ tk m)))) o
end
noncomputable def Bs (h:Heap):List PV→List Value→Prop
 |[],[]=>True
 |f::fs,v::vs=>BA h f v∧Bs h fs vs
 |_,_=>False
theorem Bs.step (x:Step w s s') (G:GH w s.heap) {fs vs} : Bs s.heap fs vs→Bs s'.heap fs vs:=by
 induction fs generalizing vs with
 |nil=>induction vs with
  |nil=>exact id
  |cons=>exact False.elim
 |cons f fs k=>induction vs with
  |nil=>exact False.elim
  |cons=>exact fun h=>⟨h.1.step x G,k h.2⟩
noncomputable def GV (x:Str) (v:Value):Prop:=∀ (w:Wd) (h:Heap),GH w h→(∃ mg:Str→Option Value,h.Ns mainGlobals mg∧mg x=some v)∨(∃ mg mb:Str→Option Value,h.Ns mainGlobals mg∧mg x=none∧h.Ns builtinsNs mb∧mb x=some v)
theorem BE {x:Str} (e:∀ P,nsIn (K0 P) mainGlobals x=some (some v)):GV x v:=fun w h G=>by
 refine Ap (G.g) fun y k=>?_;exact .inl ⟨y,k,mg_of G.kin k (e w.w.params)⟩
theorem Bp {x:Str} (e:∀ P,nsIn (K0 P) mainGlobals x=some none) (y:bootBuiltins x=some v) (d:x≠"__name__"):GV x v:=fun w h G=>by
 refine Ap (G.g) fun c k=>?_;refine AF (G.b) fun a f r=>?_;exact .inr (E9 c a k (mg_none_of G.kin k (e w.w.params)) f ((r x d).trans y))
section
variable {w:Wd} {names:BC} {n:Nat} {pe:PE} {A:Around} {env:Env} {s:Shared}
theorem BF {x:Str} (C:Cx w names n A env s pe) (g:GV x v) (d:names.lookup x=some .globalImplicit) (h:Q v s)
  (hd:autoParam ((x==("__debug__" : Str))=false) B8):wpAny (MD w) A (eval (.Name x pos) env) Q E s:=by
 have k:env.kindOf x=some .globalImplicit:=by show env.scope.names.lookup x=_;refine AB C.eo.nm ?_;exact d
 refine Or.elim (g w s.heap C.gh) (fun y=>?_) (fun a=>?_)
 ·refine AF (y) fun f b e=>?_;exact Name_function_global C.eo.kd k (loadGlobal_global (by refine AB C.eo.gl ?_;exact b) e h) hd
 ·refine CQ (a) fun f j b e i c=>?_;exact Name_function_global C.eo.kd k (loadGlobal_builtin (by refine AB C.eo.gl ?_;exact b) e (by refine AB C.eo.bi ?_;exact i) c h) hd
end
noncomputable def Lx (w:Wd) (names:BC) (n:Nat) (pe:PE) (es:List Expr) (SJ:List PV):Prop:=
 ∀ (A:Around) (env:Env) (s:Shared) (pos:Pos) (Q:List Value→Shared→Prop) (E:Value→Shared→Prop),Cx w names n A env s pe→
  (∀ vs s',Step w s s'→Bs s'.heap SJ vs→Q vs s')→wpAny (MD w) A (spliced (backTo pos (starEach es env))) Q E s
noncomputable def BK (e:Expr):Bool:=!PySem.W.isStarred e
theorem BV {k:List Expr} (h:BK e=true):starEach (e::k) env=(false,eval e env)::starEach k env:=by
 cases e<;>first | rfl | exact Bool.noConfusion h
theorem CR (es:List Expr) (env:Env) (pos:Pos) (h:es.all BK=true):(backTo pos (starEach es env)).any (·.1)=false:=by
 induction es with
 |nil=>rfl
 |cons e r k=>
  have h:=Bool.and_eq_true_iff.mp h;refine AB (BV h.1) ?_;exact k h.2
section
variable {w:Wd} {names:BC} {n:Nat} {pe:PE}
theorem AK:Lx w names n pe [] []:=fun A env s pos Q E C h=>spliced_nil (h [] s (Step.refl w s) trivial)
theorem AE {p:PV} {a:List PV} (d:Ev w names n pe e p) (f:Lx w names n pe es a) (c:autoParam (BK e=true) Dy):Lx w names n pe (e::es) (p::a):=fun A env s pos Q E C h=>by
 refine AB (BV c) ?_;refine spliced_cons (d A env s _ E C fun v s₁ k y=>?_);refine f A env s₁ pos _ E (C.step k) fun vs b x g=>h _ _ (k.trans x) ⟨y.step x (C.step k).gh,g⟩
end
noncomputable def SK (w:Wd) (names:BC) (n:Nat) (pe:PE) (ks:List Keyword) (nm:List Str) (SJ:List PV):Prop:=
 ∀ (A:Around) (env:Env) (s:Shared) (pos:Pos) (Q:List Value→Shared→Prop) (E:Value→Shared→Prop),Cx w names n A env s pe→
  (∀ vs s',Step w s s'→Bs s'.heap SJ vs→Q vs s')→wpAny (MD w) A (evalAll ((backToKw pos (keywordEach ks env)).map (·.2))) Q E s
theorem DE (ks:List Keyword):∀ (nm:List Str) (env:Env) (pos:Pos),ks.map (·.arg)=nm.map some→(backToKw pos (keywordEach ks env)).filterMap (·.1)=nm∧(backToKw pos (keywordEach ks env)).all (·.1.isSome)=true∧(backToKw pos (keywordEach ks env)).any (·.1.isNone)=false:=by
 induction ks with
 |nil=>
  intro nm _ _ h
  induction nm with
  |nil=>exact⟨rfl,rfl,rfl⟩
  |cons=>injection h
 |cons k ks x=>
  intro nm env pos h
  induction nm with
  |nil=>injection h
  |cons m nm _=>
   obtain⟨b,c⟩:=List.cons.inj h;clear h;cases k with
   |mk a e p=>
    obtain rfl:a=some m:=b;refine CK (x nm env pos c) fun y d g=>?_;exact⟨congrArg (m::·) y,d,g⟩
section
variable {w:Wd} {names:BC} {n:Nat} {pe:PE}
theorem Ad:SK w names n pe [] [] []:=fun A env s pos Q E C h=>AM (h [] s (Step.refl w s) trivial)
theorem DF {m:Str} {c:Pos} {ks:List Keyword} {nm:List Str} {p:PV} {a:List PV} (d:Ev w names n pe e p) (f:SK w names n pe ks nm a):SK w names n pe (⟨some m,e,c⟩::ks) (m::nm) (p::a):=fun A env s pos Q E C h=>by
 show wpAny _ A (do let v ←(do let v ←eval e env;standAt pos;pure v);return v::(←holding [v] (evalAll ((backToKw pos (keywordEach ks env)).map (·.2))))) Q E s;refine AD (AD (d A env s _ E C fun v s₁ k y=>AD (wpAny_standAt (AM ?_))));refine AD (wpAny_holding (f A env s₁ pos _ E (C.step k) fun vs b x g=>AM (h _ _ (k.trans x) ⟨y.step x (C.step k).gh,g⟩)))
end
noncomputable def Hl (w:Wd) (n:Nat) (f:Value) (SJ:List PV) (nm:List Str) (XF:List PV) (res:PV):Prop:=
 ∀ (A:Around) (s:Shared) (Q:Value→Shared→Prop) (E:Value→Shared→Prop) (vs ks:List Value),GH w s.heap→BS w n A s→Bs s.heap SJ vs→Bs s.heap XF ks→
  (∀ v s',Step w s s'→BA s'.heap res v→Q v s')→wpAny (MD w) A (call f vs (nm.zip ks)) Q E s
theorem Ae {f:Value} {ks:List Keyword} {Q:Args→Shared→Prop} (b:es.all BK=true)
  (k:(backToKw pos (keywordEach ks env)).all (·.1.isSome)=true)
  (h:wpAny M A (spliced (backTo pos (starEach es env))) (fun vs s₁=>wpAny M A (evalAll ((backToKw pos (keywordEach ks env)).map (·.2)))
   (fun y e=>Q ⟨vs,((backToKw pos (keywordEach ks env)).filterMap (·.1)).zip y⟩ e) E s₁) E s) :
  wpAny M A (evalArgs f true (backTo pos (starEach es env)) (backToKw pos (keywordEach ks env))) Q E s:=by
 have a:=CR es env pos b;revert a h;generalize backTo pos (starEach es env)=l;intro h a
 match l,a with
 |(false,x)::rest,_=>exact evalArgs_kwB k h
 |[],_=>
  refine AD (wpAny_mono h (fun vs s' h'=>?_) fun z z x=>x);refine wpAny_holding ?_;refine AB (if_pos k) ?_;refine AD (wpAny_mono h' (fun y e g=>?_) fun z z x=>x);exact AD (AM (AM g))
section
variable {w:Wd} {names:BC} {n:Nat} {pe:PE}
theorem BG {x:Str} {id:String} {ks:List Keyword} {y d:List PV} {nm:List Str} (g:GV x (.builtin id)) (u:names.lookup x=some .globalImplicit)
  (b:es.all BK=true) (m:ks.map (·.arg)=nm.map some) (hl:Lx w names n pe es y) (o:SK w names n pe ks nm d) (p:Hl w n (.builtin id) y nm d res) (hd:autoParam ((x==("__debug__" : Str))=false) B8) :
  Ev w names n pe (.Call (.Name x np) es ks pos) res:=fun A env s Q E C h=>by
 refine CK (DE ks nm env pos m) fun t z q=>?_;refine wpAny_Call_ofName (BF C g u ?_ hd);refine callWith_builtin_kwB (CR es env pos b) q (Ae b z ?_);refine hl A env s pos _ E C fun vs s₁ k a=>o A env s₁ pos _ E (C.step k) fun r l e f=>?_;refine AB (List.nil_append ..) ?_;refine AB t ?_;exact p A l _ E vs r ((C.step k).step e).gh ((C.step k).step e).ok (a.step e (C.step k).gh) f fun v c j i=>h v c ((k.trans e).trans j) i
theorem Eo {x:Str} {T:String} {ks:List Keyword} {y d:List PV} {nm:List Str} (g:GV x (.type T)) (u:names.lookup x=some .globalImplicit)
  (b:es.all BK=true) (m:ks.map (·.arg)=nm.map some) (hl:Lx w names n pe es y) (o:SK w names n pe ks nm d) (p:Hl w n (.type T) y nm d res) (hd:autoParam ((x==("__debug__" : Str))=false) B8) :
  Ev w names n pe (.Call (.Name x np) es ks pos) res:=fun A env s Q E C h=>by
 refine CK (DE ks nm env pos m) fun t z q=>?_;refine wpAny_Call_ofName (BF C g u ?_ hd);refine AD (wpAny_holding (Ae b z ?_));refine hl A env s pos _ E C fun vs s₁ k a=>o A env s₁ pos _ E (C.step k) fun r l e f=>?_;refine AD (wpAny_standAt ?_);refine AB (CR es env pos b) ?_;refine AB q ?_;refine AD (AM ?_);refine AB t ?_;exact AD (p A l _ E vs r ((C.step k).step e).gh ((C.step k).step e).ok (a.step e (C.step k).gh) f fun v c j i=>AD (wpAny_holding (wpAny_point (AM (h v c ((k.trans e).trans j) i)))))
theorem Hm {x:Str} {f:Addr} {o:Obj} {ks:List Keyword} {y d:List PV} {nm:List Str} (g:GV x (.ref f)) (D:names.lookup x=some .globalImplicit)
  (u:(K0 w.w.params).lookup f=some o) (c:o.data = .func fd)
  (q:es.all BK=true) (p:ks.map (·.arg)=nm.map some) (hl:Lx w names n pe es y) (r:SK w names n pe ks nm d) (t:Hl w n (.ref f) y nm d res) (hd:autoParam ((x==("__debug__" : Str))=false) B8) :
  Ev w names n pe (.Call (.Name x np) es ks pos) res:=fun A env s Q E C h=>by
 refine CK (DE ks nm env pos p) fun B F G=>?_;refine wpAny_Call_ofName (BF C g D ?_ hd);refine callWith_def_kw (o:=o) (fd:=fd) c (Ae q F ?_);refine hl A env s pos _ E C fun vs s₁ k a=>r A env s₁ pos _ E (C.step k) fun z m e i=>?_;refine⟨((C.step k).step e).gh.kin _ _ u,?_⟩
 dsimp only;refine AB B ?_;exact t A m _ E vs z ((C.step k).step e).gh ((C.step k).step e).ok (a.step e (C.step k).gh) i fun v b l j=>h v b ((k.trans e).trans l) j
end
theorem fresh_at (h:Heap):h.get? h.objs.size=none:=Heap.StaysIn.fresh (h:=h) (base:=h) fun z z e=>e
section
variable {w:Wd} {names:BC} {n:Nat} {pe:PE}
theorem Az (h:Ev w names n pe e (.fv f)) (g:autoParam (∀ env y,isTrue e env y=(do let v ←y;standAt e.pos;holding [v] (truthy v))) Me):Tr w names n pe e (Ce f):=
 fun A env s Q E C k=>wpAny_isTrue_value (h A env s _ E C fun v s₁ x r=>Iv r (k s₁ x)) (g env _)
theorem Bn (h:Tr w names n pe e b):Tr w names n pe (.UnaryOp .Not e pos) (!b):=
 fun A env s Q E C k=>wpAny_isTrue_Not (h A env s _ E C fun s₁ x=>k s₁ x)
noncomputable def Hn (w:Wd) (names:BC) (n:Nat) (pe:PE) (op:BoolOp) (es:List Expr) (b:Bool):Prop:=
 ∀ (A:Around) (env:Env) (s:Shared) (Q:Bool→Shared→Prop) (E:Value→Shared→Prop),Cx w names n A env s pe→
  (∀ s',Step w s s'→Q b s')→wpAny (MD w) A (allTrue op es env) Q E s
theorem G8:Hn w names n pe .And [] true:=fun A env s Q E C k=>wpAny_allTrue_And_nil (k s (Step.refl w s))
theorem Fd:Hn w names n pe .Or [] false:=fun A env s Q E C k=>wpAny_allTrue_Or_nil (k s (Step.refl w s))
theorem DO {a:Bool} (h:Tr w names n pe e a) (c:a=true→Hn w names n pe .And es b):Hn w names n pe .And (e::es) (a&&b):=
 fun A env s Q E C k=>wpAny_allTrue_And_cons (h A env s _ E C fun s₁ x=>by
  clear h;induction a with
  |false=>exact k s₁ x
  |true=>exact c rfl A env s₁ _ E (C.step x) fun g y=>k g (x.trans y))
theorem CM {a:Bool} (h:Tr w names n pe e a) (c:a=false→Hn w names n pe .Or es b):Hn w names n pe .Or (e::es) (a||b):=
 fun A env s Q E C k=>wpAny_allTrue_Or_cons (h A env s _ E C fun s₁ x=>by
  clear h;induction a with
  |true=>exact k s₁ x
  |false=>exact c rfl A env s₁ _ E (C.step x) fun g y=>k g (x.trans y))
theorem FC {op:BoolOp} (h:Hn w names n pe op es b):Tr w names n pe (.BoolOp op es pos) b:=
 fun A env s Q E C k=>wpAny_isTrue_BoolOp (h A env s _ E C k)
theorem An {a:Bool} (h:Tr w names n pe e a) (k:a=b):Tr w names n pe e b:=k▸h
theorem Cw {a b:PV} (h:Ev w names n pe e a) (k:a=b):Ev w names n pe e b:=k▸h
theorem Kh {t x y:Expr} (g:Tr w names n pe t b) (a:b=true→Ev w names n pe x pv) (c:b=false→Ev w names n pe y pv):Ev w names n pe (.IfExp t x y pos) pv:=
 fun A env s Q E C k=>wpAny_IfExp (g A env s _ E C fun s₁ z=>by
  clear g;induction b with
  |true=>exact a rfl A env s₁ Q E (C.step z) fun v h e=>k v h (z.trans e)
  |false=>exact c rfl A env s₁ Q E (C.step z) fun v h e=>k v h (z.trans e))
noncomputable def FD (w:Wd) (names:BC) (n:Nat) (pe:PE) (e:Expr) (xs:List FV):Prop:=
 ∀ (A:Around) (env:Env) (s:Shared) (Q:Value→Shared→Prop) (E:Value→Shared→Prop),Cx w names n A env s pe→
  (∀ a vs s',Step w s s'→s.heap.get? a=none→s'.heap.PlainList a vs.toArray→Al xs vs→Q (.ref a) s')→wpAny (MD w) A (eval e env) Q E s
theorem FD.ev (h:FD w names n pe e xs):Ev w names n pe e (.list xs):=fun A env s Q E C k=>
 h A env s Q E C fun a vs s' x z l r=>k _ _ x (Bl a vs rfl l.isList r)
theorem CH {a b:List FV} (h:FD w names n pe e a) (k:a=b):FD w names n pe e b:=k▸h
theorem Jd {t x y:Expr} (c:Tr w names n pe t b) (d:b=true→FD w names n pe x xs) (f:b=false→FD w names n pe y xs):FD w names n pe (.IfExp t x y pos) xs:=
 fun A env s Q E C k=>wpAny_IfExp (c A env s _ E C fun s₁ z=>by
  clear c;induction b with
  |true=>exact d rfl A env s₁ Q E (C.step z) fun a vs h e g=>k a vs h (z.trans e) (z.gone C.gh g)
  |false=>exact f rfl A env s₁ Q E (C.step z) fun a vs h e g=>k a vs h (z.trans e) (z.gone C.gh g))
theorem BH (h:Lx w names n pe es (fs.map .fv)) (hl:autoParam (fs.length≤sizeLine) B8):FD w names n pe (.List es pos) fs:=fun A env s Q E C k=>
 wpAny_List (h A env s pos _ E C fun vs s' x r=>by
  have y:∀ {fs:List FV} {vs:List Value},Bs s'.heap (fs.map .fv) vs→Al fs vs:=by
   intro fs
   induction fs with
   |nil=>intro vs h;induction vs with
    |nil=>trivial
    |cons=>exact h.elim
   |cons f fs e=>intro vs h;induction vs with
    |nil=>exact h.elim
    |cons v vs=>exact⟨h.1,e h.2⟩
  have q:=y r;refine⟨by refine AB q.length ?_;exact hl,k _ vs _ (x.trans (Step.push _ _)) (x.gone C.gh (fresh_at _)) ⟨_,BD _ rfl⟩ q⟩)
end
theorem TabAt.but {P:Addr} {o:Obj} (x:TabAt h P q) (g:Heap.SameBut a h h') (e:h.get? a=some o) (m:∀ vs,o.data≠.fields vs) (l:P≠a):TabAt h' P q:=by
 refine AY (x) fun f r t c=>?_;refine(Aj f ((g.2 P l).trans r) t (fun pos p i=>?_))
 refine Ax (c pos p i) fun k oc vs tk d b y j=>?_;refine(Ba k oc vs tk d ((g.2 k ?_).trans b) y j)
 rintro rfl;replace e:=b.symm.trans e;exact m vs ((Ai e)▸y)
theorem VS {P:Addr} {o:Obj} (x:TabAt h P q) (e:h.get? a=some o) (k:∀ vs,o.data≠.fields vs):P≠a:=by
 refine AF (x) fun g y z=>?_;rintro rfl;replace e:=y▸e;exact k _ (congrArg _ (Ai e).symm)
theorem Step.write {t:Nat} {o:Obj} (x:Step w s₀ s) (G:GH w s₀.heap) (y:Heap.SameBut a s.heap h') (f:s₀.heap.get? a=none) (e:s.heap.get? a=some o) (j:∀ vs,o.data≠.fields vs) (r:autoParam (s.toks≤t) Nt) :
  Step w s₀ { s with heap:=h',toks:=t } where
 keep:=fun b c n d k=>(y.2 b (by rintro rfl;injection (f.symm.trans k))).trans (x.keep b c n d k)
 EZ:=fun b c k d=>Ap (x.EZ b c k d) fun u g=>⟨u,(y.2 b (by rintro rfl;injection (f.symm.trans k))).trans g⟩
 grow:=fun P q l k=>Ap (x.grow P q l k) fun m g=>⟨m,(y.2 P (by rintro rfl;injection (f.symm.trans k))).trans g⟩
 tabs:=fun h p i=>(x.tabs h p i).but y e j (VS (x.tabs h p i) e j)
 os:=x.os
 gens:=x.gens
 tk:=AJ x.tk r
theorem AZ.Zy {y:Str} (k:AZ h env y v) (a:∀ {m},h.Ns env.locals m→h'.Ns env.locals m) (e:∀ {c v},h.IsCell c v→h'.IsCell c v):AZ h' env y v:=
 k.tr (fun z m i g=>AQ m (a i) g) fun z z j=>e j
theorem BA.Zz (r:BA h pv v) (k:∀ {b o xs m},o.data = .seq xs m→h.get? b=some o→h'.get? b=some o):BA h' pv v:=by
 induction pv with
 |fv=>exact r
 |str=>exact r
 |raw=>exact r
 |list xs=>refine AW (r) fun b vs e y f=>?_;refine B0 (y) fun o g c m d=>?_;exact(Bl b vs e ⟨o,k d g,c,m,d⟩ f)
 |BN xs=>refine AW (r) fun b vs e i f=>?_;refine B0 (i) fun o g c m d=>?_;exact(Bl b vs e ⟨o,k d g,c,m,d⟩ f)
 |line a b=>refine DC (r) fun b o t u m e g c d r=>?_;exact(Dk b o t u m e (k r g) c d r)
theorem HK {m:Str→Option Value} (k:h.Ns a m) (hd:∀ b o,h.get? b=some o→Af o→h'.get? b=some o):h'.Ns a m:=BR (k) fun o es y e d z=>(FA o es y (hd _ _ e ⟨es,y,d⟩) d z)
theorem AZ.keep {y:Str} (k:AZ h env y v) (hd:∀ b o,h.get? b=some o→Af o→h'.get? b=some o) (e:∀ {c v},h.IsCell c v→h'.IsCell c v):AZ h' env y v:=k.Zy (fun i=>HK i hd) e
theorem BS.next {t:Nat} (k:BS w n A s) (hd:∀ b o,s.heap.get? b=some o→Af o→∃ o',h'.get? b=some o'∧Af o') (y:s.toks≤t):BS w n A { s with heap:=h',toks:=t }:=
 ⟨k.h,k.d,k.u,AF (k.f) fun l i j=>⟨l,i,j.EZ fun b o z e d=>hd b o e d⟩,Nat.lt_of_lt_of_le k.tk y⟩
theorem BS.next' {t:Nat} (k:BS w n A s) (hd:∀ b o,s.heap.get? b=some o→Af o→h'.get? b=some o) (h:s.toks≤t):BS w n A { s with heap:=h',toks:=t }:=k.next (fun b o e d=>(AQ o (hd b o e d) d)) h
theorem Pa {m:Addr} (g:h.get? a=some { cls:=.type "list",dict:=none,data:=.seq vs m,slots:=#[] }) (y:Heap.SameBut a h h'):(∀ b o,h.get? b=some o→Af o→h'.get? b=some o)∧∀ {c v},h.IsCell c v→h'.IsCell c v:=
 ⟨fun b o e d=>(y.2 b (by rintro rfl;obtain rfl:=(B6 g e);exact AG rfl d)).trans e,fun {c v} k=>AF (k) fun o e d=>(AQ o ((y.2 c (by rintro rfl;obtain rfl:=(B6 g e);injection d)).trans e) d)⟩
theorem AZ.write {x:Str} (k:AZ h env x v) (y:Heap.SameBut a h h') (b:env.kindOf x=some .local→env.locals≠a) (g:∀ c,env.cells.lookup x=some c→c≠a):AZ h' env x v:=
 k.tr (fun e m p q=>AQ m (p.sameBut y (b e)) q) fun c p q=>q.sameBut y (g c p)
theorem BA.write (r:BA h pv v) (j:Heap.SameBut a h h') (i:pv.Fy=true∨v≠.ref a):BA h' pv v:=by
 induction pv with
 |fv=>exact r
 |str=>exact r
 |raw=>exact r
 |list xs=>
  refine AW (r) fun b vs d k f=>?_;obtain rfl:=d;obtain⟨o,l⟩:=k;exact(Bl b vs rfl ⟨o,(j.2 b (by rintro rfl;exact i.elim (fun q=>nomatch q) fun q=>q rfl)).trans l.1,l.2⟩ f)
 |BN xs=>
  refine AW (r) fun b vs c e f=>?_;obtain rfl:=c;obtain⟨o,l⟩:=e;exact(Bl b vs rfl ⟨o,(j.2 b (by rintro rfl;exact i.elim (fun q=>nomatch q) fun q=>q rfl)).trans l.1,l.2⟩ f)
 |line x y=>
  obtain⟨b,o,t,u,m,rfl,g,r⟩:=r;exact(It b o t u m rfl ((j.2 b (by rintro rfl;exact i.elim (fun q=>nomatch q) fun q=>q rfl)).trans g) r)
theorem BA.seq {o:Obj} (r:BA h pv (.ref a)) (e:h.get? a=some o) (j:pv.Fy=false):∃ xs m,o.data = .seq xs m:=by
 induction pv with
 |raw=>injection j
 |fv f=>cases f<;>first | (refine Ap (r) fun z q=>?_;injection q) | (injection r)
 |str x=>refine Ap (r) fun t q=>?_;injection q
 |list xs=>
  refine AW (r) fun b vs q i f=>?_;refine B0 (i) fun o' g c m d=>?_;obtain rfl:=(PySem.Value.ref.inj q)
  obtain rfl:=(B6 e g)
  exact⟨_,m,d⟩
 |BN xs=>
  refine AW (r) fun b vs q k f=>?_;refine B0 (k) fun o' g c m d=>?_;obtain rfl:=(PySem.Value.ref.inj q)
  obtain rfl:=(B6 e g)
  exact⟨_,m,d⟩
 |line x y=>
  refine DC (r) fun b o' t u m q g c d r=>?_;obtain rfl:=(PySem.Value.ref.inj q)
  obtain rfl:=(B6 e g)
  exact⟨_,m,r⟩
structure Fm (w:Wd) (names:BC) (oc:List Str) (n:Nat) (A:Around) (env:Env) (s₀:Shared) (own:Option Str) (s:Shared) (pe:PE):Prop where
 cx:Cx w names n A env s pe
 g0:GH w s₀.heap
 st:Step w s₀ s
 ns:∃ m,s.heap.Ns env.locals m
 lf:s₀.heap.get? env.locals=none
 lb:w.base.get? env.locals=none
 HL:∀ x∈oc,∃ c v,env.cells.lookup x=some c∧s.heap.IsCell c v∧s₀.heap.get? c=none∧∀ y,env.cells.lookup y=some c→y=x
 ow:∀ x,own=some x→∃ a xs vs,pe x=some (.list xs)∧AZ s.heap env x (.ref a)∧s.heap.PlainList a vs.toArray∧Al xs vs∧s₀.heap.get? a=none∧
  ∀ y pv,y≠x→pe y=some pv→∃ v,AZ s.heap env y v∧BA s.heap pv v∧(pv.Fy=true∨v≠.ref a)
section
variable {w:Wd} {names:BC} {oc:List Str} {n:Nat} {A:Around} {env:Env} {s₀ s s':Shared} {own:Option Str} {pe:PE}
theorem Fm.step (F:Fm w names oc n A env s₀ own s pe) (x:Step w s s'):Fm w names oc n A env s₀ own s' pe where
 cx:=F.cx.step x
 g0:=F.g0
 st:=F.st.trans x
 ns:=Ap (F.ns) fun m h=>⟨m,x.ns h⟩
 lf:=F.lf
 lb:=F.lb
 HL:=fun y g=>AW (F.HL y g) fun c v a b r=>(Bl c v a (x.cell F.cx.gh b) r)
 ow:=fun y g=>by
  refine B9 (F.ow y g) fun a xs vs p q l r f u=>?_;exact(C3 a xs vs p (q.step x F.cx.gh) (x.Um F.cx.gh l) r f (fun z pv d e=>AY (u z pv d e) fun v i j k=>⟨v,i.step x F.cx.gh,j.step x F.cx.gh,k⟩))
theorem Fm.disown (F:Fm w names oc n A env s₀ own s pe):Fm w names oc n A env s₀ none s pe:=⟨F.cx,F.g0,F.st,F.ns,F.lf,F.lb,F.HL,fun z h=>by injection h⟩
theorem Fm.less (F:Fm w names oc n A env s₀ own s pe) (h:∀ x pv,pe' x=some pv→pe x=some pv):Fm w names oc n A env s₀ none s pe':=
 ⟨⟨F.cx.eo,F.cx.gh,F.cx.ok,fun x pv e=>F.cx.vars x pv (h x pv e)⟩,F.g0,F.st,F.ns,F.lf,F.lb,F.HL,fun z h=>by injection h⟩
theorem Fm.lst (F:Fm w names oc n A env s₀ own s pe) (r:∀ y pv,pe y=some pv→∃ v,AZ s.heap env y v∧BA s₀.heap pv v) {t:Nat} (l:s.heap.PlainList a vs) (f:s₀.heap.get? a=none) (p:Heap.SameBut a s.heap h') (u:autoParam (s.toks≤t) Nt) :
  Fm w names oc n A env s₀ none { s with heap:=h',toks:=t } pe∧∀ y v,AZ s.heap env y v→AZ h' env y v:=by
 refine Ap (l) fun B o=>?_;have e:=F.st.write (t:=t) F.g0 p f o (fun vs q=>by injection q);refine Bt (Pa o p) fun hd d=>?_;have g:∀ y v,AZ s.heap env y v→AZ h' env y v:=fun y v k=>k.keep hd d;exact⟨⟨⟨F.cx.eo,e.gh F.g0,F.cx.ok.next' hd u,fun y py b=>AF (r y py b) fun v i j=>⟨v,g y v i,j.step e F.g0⟩⟩,F.g0,e,Ap (F.ns) fun m z=>⟨m,HK z hd⟩,F.lf,F.lb,fun y b=>AW (F.HL y b) fun c v i j k=>⟨c,v,i,d j,k⟩,fun x h=>by injection h⟩,g⟩
theorem Ho {x:Str} (F:Fm w names oc n A env s₀ (some x) s pe):∃ a xs vs,pe x=some (.list xs)∧AZ s.heap env x (.ref a)∧s.heap.PlainList a vs.toArray∧Al xs vs∧
  ∀ (h':Heap) (t:Nat) (h:List Value) (g:List FV),h'.PlainList a h.toArray→Heap.SameBut a s.heap h'→Al g h→s.toks≤t→Fm w names oc n A env s₀ (some x) { s with heap:=h',toks:=t } (pe.set x (.list g)):=by
 refine B9 (F.ow x rfl) fun a xs vs p q l r f u=>?_;refine(Ir a xs vs p q l r (fun h' t h g G C I J=>?_))
 refine Ap (l) fun L E=>?_;have o:=F.st.write (t:=t) F.g0 C f E (fun vs q=>by injection q);refine Bt (Pa E C) fun hd D=>?_;have B:∀ {y v},AZ s.heap env y v→AZ h' env y v:=fun {y v} k=>k.keep hd D;refine⟨⟨F.cx.eo,o.gh F.g0,F.cx.ok.next' hd J,fun y py d=>?_⟩,F.g0,o,Ap (F.ns) fun m z=>⟨m,HK z hd⟩,F.lf,F.lb,fun y d=>AW (F.HL y d) fun c v i j k=>⟨c,v,i,D j,k⟩,fun y d=>?_⟩
 ·by_cases b:y=x
  ·clear p F;subst b;have:PV.list g=py:=by simpa [PE.set]using d
   subst this;exact(PQ (.ref a) (B q) a h rfl G.isList I)
  ·refine AY (u y py b (by simpa [PE.set,b]using d)) fun v i j k=>?_;exact(AQ v (B i) (j.write C k))
 ·refine Ar (Ai d) ?_;refine(C3 a g h (if_pos rfl) (B q) G I f (fun z K H e=>?_))
  refine AY (u z K H (by simpa [PE.set,H]using e)) fun v i j k=>?_;exact(Aj v (B i) (j.write C k) k)
def L2 (pe:PE) (env:Env) (s₀ s:Shared) (own':Option Str) (x:Str) (pv:PV) (v:Value):Prop:=∀ y,own'=some y→y=x∧∃ a xs vs,pv = .list xs∧v = .ref a∧s.heap.PlainList a vs.toArray∧Al xs vs∧s₀.heap.get? a=none∧∀ z pz,z≠x→pe z=some pz→∃ u,AZ s.heap env z u∧BA s.heap pz u∧(pz.Fy=true∨u≠.ref a)
theorem Fm.close {x:Str} {own':Option Str} {b:Addr} {B:Obj} {t:Nat} (F:Fm w names oc n A env s₀ own s pe) (r:BA s.heap pv v) (S:L2 pe env s₀ s own' x pv v) (L:s.heap.get? b=some B) (P:Af B∨∃ U,B.data = .cell U) (fb:s₀.heap.get? b=none) (K:Heap.SameBut b s.heap h')
  (N:∃ m,h'.Ns env.locals m) (H:Af B→∃ D,h'.get? b=some D∧Af D) (G:∀ y∈oc,∃ c v,env.cells.lookup y=some c∧h'.IsCell c v) (J:AZ h' env x v) (E:∀ y u,y≠x→AZ s.heap env y u→AZ h' env y u) (Z:s.toks≤t) :
  Fm w names oc n A env s₀ own' { s with heap:=h',toks:=t } (pe.set x pv):=by
 have nf:∀ vs,B.data≠.fields vs:=fun vs q=>by rcases P with ⟨_,_,d⟩ | ⟨_,d⟩<;>injection d.symm.trans q
 have ns:∀ xs m,B.data≠.seq xs m:=fun xs m q=>by rcases P with ⟨_,_,d⟩ | ⟨_,d⟩<;>injection d.symm.trans q
 have l:∀ {pv u},BA s.heap pv u→BA h' pv u:=fun {pv u} r=>r.write K (by
  cases hr:pv.Fy
  ·refine .inr ?_;rintro rfl;refine Bj (r.seq L hr) fun xs m q=>?_;exact ns xs m q
  ·exact .inl rfl)
 have C:=F.st.write (t:=t) F.g0 K fb L nf;refine⟨⟨F.cx.eo,C.gh F.g0,F.cx.ok.next (fun a o e d=>?_) Z,fun y py h=>?_⟩,F.g0,C,N,F.lf,F.lb,fun y h=>?_,fun y h=>?_⟩
 ·by_cases I:a=b
  ·rw [I]at e ⊢;exact H (Ai (e.symm.trans L)▸d)
  ·exact(AQ o ((K.2 a I).trans e) d)
 ·by_cases k:y=x
  ·replace h:=k▸h;rewrite [PE.set]at h;replace h:=(if_pos rfl).symm.trans h;refine AB k ?_;refine Ar (Ai h) ?_;exact(AQ v J (l r))
  ·rw [PE.set,if_neg k]at h;refine AF (F.cx.vars y py h) fun u p q=>?_;exact(AQ u (E y u k p) (l q))
 ·refine AW (F.HL y h) fun c v i _ j=>?_;refine CD (G y h) fun c' W Y j'=>?_;exact(Bl c W i (Ai (Y.symm.trans i)▸j') j)
 ·refine Kd (S y h) fun e1 a xs vs R V g f X u=>?_;obtain⟨T,M⟩:=g;refine AB e1 ?_;refine(C3 a xs vs (by rewrite [PE.set];refine Eq.trans (if_pos rfl) ?_;refine AB R ?_;rfl) (V▸J) ⟨T,(K.2 a fun q=>ns _ _ (by replace M:=q▸M;refine Ar (Ai (M.symm.trans L)) ?_;rfl)).trans M⟩ f X (fun z pz O e=>?_))
  rw [PE.set,if_neg O]at e;refine AY (u z pz O e) fun Q p q t=>?_;exact(Aj Q (E z Q O p) (l q) t)
section
variable {x:Str} {v:Value} {h':Heap} {mL:Str→Option Value}
theorem HM (F:Fm w names oc n A env s₀ own s pe) (y:Str):env.kindOf y=names.lookup y:=by show env.scope.names.lookup y=_;exact congrArg _ F.cx.eo.nm
theorem Ki {c:Addr} {u:Option Value} (h:s.heap.Ns env.locals mL) (g:Heap.SameBut env.locals s.heap h') (q:s.heap.IsCell c u):h'.IsCell c u:=q.sameBut g (by
 rintro rfl;refine BR (h) fun o es a e d z=>?_;refine AF (q) fun o' k y=>?_;obtain rfl:=Ai (e.symm.trans k);injection d.symm.trans y)
theorem Kj (e:s.heap.Ns env.locals mL) (b:h'.Ns env.locals (fun z=>if z=x then some v else mL z)) (f:Heap.SameBut env.locals s.heap h') {y:Str} {u:Value} (d:y≠x) (k:AZ s.heap env y u):AZ h' env y u:=
 k.tr (fun w m' a q=>by
  refine CX (a) fun E l B r m w C=>?_;refine⟨_,b,?_⟩
  refine CX (e) fun F o D j i w t=>?_;obtain rfl:=Ai (r.symm.trans j);refine Bt (PySem.Data.dict.inj (m.symm.trans i)) fun h g=>?_;clear i;obtain rfl:=h;refine AB g ?_;refine Eq.trans (if_neg d) ?_;refine Eq.trans (t y).symm ?_;refine Eq.trans (C y) ?_;refine Eq.trans q ?_;rfl) fun c p q=>Ki e f q
theorem Hp {t:Nat} (F:Fm w names oc n A env s₀ own s pe) (hl:names.lookup x=some .local) (r:BA s.heap pv v) (e:s.heap.Ns env.locals mL) (h:h'.Ns env.locals (fun z=>if z=x then some v else mL z)) (b:Heap.SameBut env.locals s.heap h')
  (own':Option Str) (o:L2 pe env s₀ s own' x pv v) (B:autoParam (s.toks≤t) Nt):Fm w names oc n A env s₀ own' { s with heap:=h',toks:=t } (pe.set x pv):=by
 refine BR (id e) fun D es f q p Z=>?_;exact F.close r o q (.inl (DB es f p)) F.lf b ⟨_,h⟩ (fun Z=>BR (h) fun o' a d m C Z=>(PN o' m a d C)) (fun y l=>AW (F.HL y l) fun c v i j Z=>(Dj c v i (Ki e b j)))
  (by unfold AZ;refine AB (HM F ..) ?_;refine AB hl ?_;exact(AQ _ h (if_pos rfl))) (fun y u g k=>Kj e h b g k) B
end
theorem B4 {Z:Around} {x:Str} {Q:Unit→Shared→Prop} (F:Fm w names oc n A env s₀ own s pe)
  (hk:names.lookup x=some .local∨(x∈oc∧names.lookup x=some .cell)) (r:BA s.heap pv v) (own':Option Str) (P:L2 pe env s₀ s own' x pv v)
  (h:∀ s',Fm w names oc n A env s₀ own' s' (pe.set x pv)→(∀ b o,¬Af o→(∀ l,o.data≠.cell l)→s.heap.get? b=some o→s'.heap.get? b=some o)→(∀ y u,y≠x→AZ s.heap env y u→AZ s'.heap env y u)→(names.lookup x=some .local→0<s'.toks)→Q () s'):wpAny M Z (storeName env x v) Q E s:=by
 have z:∀ {b G h'},s.heap.get? b=some G→(Af G∨∃ l,G.data = .cell l)→Heap.SameBut b s.heap h'→∀ b' o,¬Af o→(∀ l,o.data≠.cell l)→s.heap.get? b'=some o→h'.get? b'=some o:=fun {b G h'} C X g b' o nd nc e=>(g.2 b' (by
  rintro rfl;obtain rfl:=Ai (e.symm.trans C);exact X.elim nd fun J=>Ap (J) fun l d=>nc l d)).trans e
 refine Ap (F.ns) fun m a=>?_;refine BR (id a) fun oL es W V R _=>?_;refine Or.elim hk (fun hl=>?_) (fun f=>?_)
 ·exact wpAny_storeName_local ((HM F x).trans hl) a (fun h' B g=>h _ (Hp (t:=s.toks+1) F hl r a B g own' P (Nat.le_succ _)) (z V (.inl (DB es W R)) g) (fun y u p k=>Kj a B g p k) fun _=>Nat.succ_pos _) (by refine AB F.cx.eo.kd ?_;rfl)
 ·obtain⟨Y,hl⟩:=f;refine CQ (F.HL x Y) fun c T U O fc uc=>?_;refine wpAny_storeName_cell F.cx.eo.kd ((HM F x).trans hl) U O fun h' H g=>?_;refine AF (O) fun G C L=>?_;have S:env.locals≠c:=by rintro rfl;obtain rfl:=Ai (V.symm.trans C);injection R.symm.trans L
  have D:∀ y u,y≠x→AZ s.heap env y u→AZ h' env y u:=fun y u p k=>k.write g (fun _=>S) fun N h1 e=>p (uc y (e▸h1));refine h _ (F.close (t:=s.toks) r P C (.inr ⟨_,L⟩) fc g ⟨m,a.sameBut g S⟩ (fun K=>Bj (K) fun _ _ d=>by injection d.symm.trans L) (fun y hy=>?_) (by unfold AZ;refine AB (HM F ..) ?_;refine AB hl ?_;exact(AQ c U H)) D (Nat.le_refl _)) (z C (.inr ⟨_,L⟩) g) D fun q=>by injection (Ai (q.symm.trans hl))
  refine AW (F.HL y hy) fun N v1 i j _=>?_
  by_cases I:N=c
  ·exact(Dj c _ (I▸i) H)
  ·exact(Dj N v1 i (j.sameBut g I))
end
noncomputable def N1 (w:Wd) (names:BC) (oc:List Str) (n:Nat) (own:Option Str) (pe:PE) (st:Stmt) (own':Option Str) (pe':PE):Prop:=
 ∀ (A:Around) (env:Env) (s₀ s:Shared) (Q:Flow→Shared→Prop) (E:Value→Shared→Prop),Fm w names oc n A env s₀ own s pe→
  (∀ s',Fm w names oc n A env s₀ own' s' pe'→Q .next s')→wpAny (MD w) A (exec st env) Q E s
noncomputable def Nm (w:Wd) (names:BC) (oc:List Str) (n:Nat) (own:Option Str) (pe:PE) (st:List Stmt) (own':Option Str) (pe':PE):Prop:=
 ∀ (A:Around) (env:Env) (s₀ s:Shared) (Q:Flow→Shared→Prop) (E:Value→Shared→Prop),Fm w names oc n A env s₀ own s pe→
  (∀ s',Fm w names oc n A env s₀ own' s' pe'→Q .next s')→wpAny (MD w) A (execs st env) Q E s
section
variable {w:Wd} {names:BC} {oc:List Str} {n:Nat} {own own' Uo:Option Str} {pe pe' XG:PE}
theorem EJ:Nm w names oc n own pe [] own pe:=fun A env s₀ s Q E F k=>wpAny_execs_nil (k s F)
theorem Bq {g:Stmt} {e:List Stmt} (h:N1 w names oc n own pe g own' pe') (a:Nm w names oc n own' pe' e Uo XG):Nm w names oc n own pe (g::e) Uo XG:=
 fun A env s₀ s Q E F k=>wpAny_execs_cons (h A env s₀ s _ E F fun s₁ y=>a A env s₀ s₁ Q E y k)
theorem L3 {k:Stmt} (h:N1 w names oc n own pe k own' pe'):Nm w names oc n own pe [k] own' pe':=Bq h EJ
theorem AL {x:Str} (d:Ev w names n pe e pv) (c:names.lookup x=some .local∨(x∈oc∧names.lookup x=some .cell))
  (f:autoParam (∀ env,D7 names env→swapsWith e (some (.Name x px)) pos.line env=pure false) Me):N1 w names oc n own pe (.Assign [.Name x px] e pos) none (pe.set x pv):=
 fun A env s₀ s Q E F k=>wpAny_Assign_Name (d A env s _ E F.cx fun v s₁ b g=>B4 (F.step b) c g none (fun z h=>by injection h) fun a y z z z=>k a y) (f env F.cx.eo)
theorem Dz {x:Str} (H:FD w names n pe e xs) (G:names.lookup x=some .local∨(x∈oc∧names.lookup x=some .cell))
  (I:autoParam (∀ env,D7 names env→swapsWith e (some (.Name x px)) pos.line env=pure false) Me):N1 w names oc n own pe (.Assign [.Name x px] e pos) (some x) (pe.set x (.list xs)):=
 fun A env s₀ s Q E F k=>wpAny_Assign_Name (H A env s _ E F.cx fun a vs s₁ c B d i=>by
  refine B4 (F.step c) G (pv:=.list xs) (Bl a vs rfl d.isList i) (some x) (fun y h=>(G5 (by refine AB (Ai h) ?_;rfl) a xs vs rfl rfl d i (F.st.gone F.g0 B) (fun z C J D=>?_))) fun t r v v v=>k t r;refine AF (F.cx.vars z C D) fun u p q=>?_;refine(Aj u (p.step c F.cx.gh) (q.step c F.cx.gh) ?_)
  by_cases j:C.Fy=true
  ·exact .inl j
  refine .inr ?_;rintro rfl;clear D;induction C with
  |raw=>exact j rfl
  |fv f=>cases f<;>first | (refine Ap (q) fun v q=>?_;injection q) | (injection q)
  |str=>refine Ap (q) fun v q=>?_;injection q
  |list=>refine AW (q) fun b v q l v=>?_;refine AF (l) fun o g v=>?_;obtain rfl:=(PySem.Value.ref.inj q);injection (B.symm.trans g)
  |BN=>refine AW (q) fun b v q m v=>?_;refine AF (m) fun o g v=>?_;obtain rfl:=(PySem.Value.ref.inj q);injection (B.symm.trans g)
  |line=>refine Ga (q) fun b o v v v q g v=>?_;obtain rfl:=(PySem.Value.ref.inj q);injection (B.symm.trans g)) (I env F.cx.eo)
theorem Kk {t:Expr} {h:List Stmt} (y:Tr w names n pe t b) (g:b=true→Nm w names oc n own pe body own' pe') (a:b=false→Nm w names oc n own pe h own' pe') :
  N1 w names oc n own pe (.If t body h pos) own' pe':=
 fun A env s₀ s Q E F k=>wpAny_If (y A env s _ E F.cx fun s₁ e=>by
  clear y;induction b with
  |true=>exact g rfl A env s₀ s₁ _ E (F.step e) k
  |false=>exact a rfl A env s₀ s₁ _ E (F.step e) k)
theorem XH {k:Stmt} {a b:PE} (h:N1 w names oc n own pe k own' a) (e:a=b):N1 w names oc n own pe k own' b:=e▸h
end
noncomputable def Iw (o:Obj):Prop:=∀ vs q t,o.data = .fields vs→vs[1]?≠some (.str q t)
theorem Step.upd {t:Nat} {o:Obj} (x:Step w s₀ s) (G:GH w s₀.heap) (y:Heap.SameBut a s.heap h') (f:s₀.heap.get? a=none) (e:s.heap.get? a=some o) (N:Iw o) (H:autoParam (s.toks≤t) Nt) :
  Step w s₀ { s with heap:=h',toks:=t } where
 keep:=fun b j n d k=>(y.2 b (by rintro rfl;injection (f.symm.trans k))).trans (x.keep b j n d k)
 EZ:=fun b j k d=>Ap (x.EZ b j k d) fun J g=>⟨J,(y.2 b (by rintro rfl;injection (f.symm.trans k))).trans g⟩
 grow:=fun P F i k=>Ap (x.grow P F i k) fun m g=>⟨m,(y.2 P (by rintro rfl;injection (f.symm.trans k))).trans g⟩
 tabs:=fun h p u=>by
  refine AY (x.tabs h p u) fun i I t c=>?_;refine AF (h p u) fun K D Z=>?_;refine(Aj i ((y.2 _ (by rintro rfl;injection (f.symm.trans D))).trans I) t (fun pos C B=>?_))
  refine Ax (c pos C B) fun l oc vs tk z r q v=>?_;refine(Ba l oc vs tk z ((y.2 l ?_).trans r) q v)
  rintro rfl;obtain rfl:=(B6 r e)
  exact N vs _ _ q v
 os:=x.os
 gens:=x.gens
 tk:=AJ x.tk H
theorem CT.mem {base:Heap} {l:List Env} : CT base h l→∀ {b:Addr},b∈l.filterMap (·.frame)→base.get? b=none∧∃ o,h.get? b=some o∧Af o:=by
 induction l with
 |nil=>exact fun z z k=>nomatch k
 |cons env x y=>
  intro H b k;refine CQ (H.2.1) fun L o f n e d=>?_;rw [List.filterMap_cons,f]at k;exact(List.mem_cons.mp k).elim (fun q=>q▸⟨n,o,e,d⟩) (y H.2.2)
theorem Step.slots {l:List Env} (G:GH w s.heap) (v:CT w.base s.heap l) (y:Heap.SlotsOnly (l.filterMap (·.frame)) s.heap h'):Step w s { s with heap:=h' }:=by
 have x:∀ a o,s.heap.get? a=some o→(w.base.get? a=none→¬Af o)→h'.get? a=some o:=fun a o e d=>by
  refine(y.2.1 a fun i=>?_).trans e;refine Mi (v.mem i) fun n o' m C=>?_;obtain rfl:=(B6 e m)
  exact d n C
 have b:∀ k,¬Af (tabObj k):=fun k q=>Bj q fun Z Z q=>by injection q
 refine⟨fun a o Z d e=>x a o e d,fun a o e Z=>y.2.2 a o e,fun P H k e=>⟨#[],by exact x P _ e fun Z=>b k⟩,fun h p z=>?_,rfl,fun h=>h,Nat.le_refl _⟩
 refine AY (h p z) fun k D t c=>?_;refine(Aj k (x _ _ D fun Z=>b k) t (fun pos B j=>?_))
 refine Ax (c pos B j) fun r oc vs tk f F g u=>?_;exact(Ba r oc vs tk f (x _ _ F fun Z=>AR g) g u)
noncomputable def DK (h h':Heap):Prop:=∀ a o,h.get? a=some o→Af o→∃ o',h'.get? a=some o'∧Af o'
theorem DK.refl (h:Heap):DK h h:=fun a o e d=>(AQ o e d)
theorem DK.trans {a b c:Heap} (x:DK a b) (y:DK b c):DK a c:=fun p o e d=>AF (x p o e d) fun o' h k=>y p o' h k
theorem DK.but {o:Obj} (y:Heap.SameBut a h h') (e:h.get? a=some o) (n:¬Af o):DK h h':=fun b x k d=>(AQ x ((y.2 b (by rintro rfl;obtain rfl:=(B6 e k);exact n d)).trans k) d)
theorem CT.dk {base:Heap} {l:List Env} (f:CT base h l) (x:DK h h'):CT base h' l:=f.EZ fun a o z e d=>x a o e d
noncomputable def Ep (h₀ h:Heap) (cls:Value) (e:Addr) (st:Option (Option Addr)):Prop:=
 h₀.get? e=none∧∃ oe vs,h.get? e=some oe∧oe.cls=cls∧oe.data = .fields vs∧vs.size=6∧(cls≠.ref 102→vs[2]? = some .none)∧
  match st with
  |none=>vs[1]? = some .none
  |some m=>∃ T oT ts L,vs[1]? = some (.ref T)∧h₀.get? T=none∧T≠e∧h.get? T=some oT∧oT.data = .fields ts∧ts[1]? = some (.ref L)∧ts[3]? = some (match m with | none=>.none | some f=>rawInt f)
section
variable {w:Wd} {M:Model} {A:Around} {E:Value→Shared→Prop} {s₀ s:Shared} {env:Env} {outer:List Env} {e L:Addr} {cls:Value}
theorem newEntry {Q:Unit→Shared→Prop} {f:Value} {n:Obj} (B:A.frames=some (env::outer)) (z:CT w.base s.heap (env::outer)) (I:env.frame=some L)
  (G:GH w s₀.heap) (x:Step w s₀ s) (l:s₀.heap.get? e=none) (D:s.heap.get? e=some n) (hd:n.data = .fields vs) (J:n.cls=cls) (H:vs.size=6) (N:cls≠.ref 102→vs[2]? = some .none) (R:∀ q t,vs[1]?≠some (.str q t))
  (k:∀ h',DK s.heap h'→Step w s₀ { s with heap:=h' }→Ep s₀.heap h' cls e (some (some L))→Q () { s with heap:=h' }) :
  wpAny M A (do setField (.ref e) 1 (←EntryCells.newEntry f (←frameOf env) .none (rawInt L) .none (←entryPlaceOf L b))) Q E s:=by
 refine AD (wpAny_frameOf_fun B z.fun I fun h u=>?_);have i:Step w s₀ { s with heap:=h }:=x.trans (Step.slots (x.gh G) z u);have c:h.get? e=some n:=(u.2.1 e fun U=>by
  refine Mi (z.mem U) fun Z o' v K=>?_;obtain rfl:=(B6 D v)
  exact AR hd K).trans D
 refine AD (wpAny_entryPlaceOf fun F C=>?_);refine AD (wpAny_newObj_type ?_ (C.sizeOk5 _ _ _ _ _));generalize m:({ cls:=.type "traceback",dict:=none,data:=.fields ([f,.ref L,.none,rawInt L,.none]++(if F.isEmpty then List.replicate 6 Value.none else F)).toArray } : Obj)=oT;have r:Step w s₀ { s with heap:=h.push oT }:=i.trans (Step.push { s with heap:=h } oT);have y:(h.push oT).get? e=some n:=Br _ c;refine wpAny_setField y hd (H.symm▸(by decide:1<6)) ?_;have p:h.objs.size≠e:=Nat.ne_of_gt (Heap.lt_size c);have g:=Obj.data_mapFields hd (·.setIfInBounds 1 (Value.ref h.objs.size));have j:((h.push oT).update e (Obj.mapFields (·.setIfInBounds 1 (Value.ref h.objs.size)))).get? h.objs.size=some oT:=
  (Heap.get?_update_other _ _ (Ne.symm p)).trans (BD h (by refine Ar m ?_;rfl))
 have O:DK s.heap ((h.push oT).update e (Obj.mapFields (·.setIfInBounds 1 (Value.ref h.objs.size)))):=
  DK.trans (b:=h.push oT) (fun a o P d=>Ap (u.2.2 a o P) fun W v=>(AQ _ (Br _ v) d)) (DK.but (Heap.SameBut.update ..) y (AR hd))
 refine k _ O (r.upd (t:=s.toks) G (Heap.SameBut.update ..) l y fun S q t V=>by refine Ar (PySem.Data.fields.inj ((hd.symm.trans V))) ?_;exact R q t) (C0 l _ _ (Heap.get?_update_self (Obj.mapFields (·.setIfInBounds 1 (Value.ref h.objs.size))) y (Obj.isFreed_of_fields g)) ((Obj.cls_mapFields _ _).trans J) g (by simp [H]) (fun T=>by simp [N T]) ?_);exact⟨h.objs.size,oT,_,L,(by simp [H]),(i.gone G (fresh_at _)),p,j,(congrArg _ m.symm),(by rfl),(by rfl)⟩
theorem note {Q:Unit→Shared→Prop} {z:Option (Option Addr)} (r:A.frames=some (env::outer)) (P:CT w.base s.heap (env::outer)) (C:env.frame=some L)
  (G:GH w s₀.heap) (x:Step w s₀ s) (X:Ep s₀.heap s.heap cls e z) (b:z=none∨z=some none∨z=some (some L))
  (k:∀ h',DK s.heap h'→Step w s₀ { s with heap:=h' }→Ep s₀.heap h' cls e (some (some L))→Q () { s with heap:=h' }):wpAny M A (noteFrame (.ref e) env) Q E s:=by
 refine EH (X) fun f R vs l D hd H F B=>?_;unfold noteFrame;simp only [C];refine Or.elim b (fun p=>?_) (fun y=>Or.elim y (fun u=>?_) (fun v=>?_))
 ·clear X b;obtain rfl:=p;refine AD (wpAny_field l hd B ?_);refine AB (if_neg (by decide)) ?_;exact newEntry r P C G x f l hd D H F (fun q t=>by refine AB B ?_;exact not_eq_of_beq_eq_false rfl) k
 ·clear y b X;obtain rfl:=u;obtain⟨T,I,ts,N,n,j,i,c,h,d,g⟩:=B;refine AD (wpAny_field l hd n ?_);refine AB (if_pos (show(Value.ref T != Value.none)=true from by rfl)) ?_;refine AD (wpAny_field c h g ?_);refine AB (if_neg (show ¬((Value.none==rawInt L)=true)from by exact ne_true_of_eq_false rfl)) ?_;refine AD (wpAny_setField c h (Array.getElem?_eq_some_iff.mp g).1 ?_);have J:=x.upd (t:=s.toks) G (Heap.SameBut.update s.heap T (Obj.mapFields (·.setIfInBounds 3 Value.none))) j c fun U q t V=>by refine Ar (PySem.Data.fields.inj ((h.symm.trans V))) ?_;refine AB d ?_;exact not_eq_of_beq_eq_false rfl
  refine newEntry (s:={ s with heap:=s.heap.update T (Obj.mapFields (·.setIfInBounds 3 Value.none)) }) r (P.EZ fun a o Z O K=>?_) C G J f ((Heap.get?_update_other s.heap (Obj.mapFields (·.setIfInBounds 3 Value.none)) i).trans l) hd D H F (fun q t=>by refine AB n ?_;exact not_eq_of_beq_eq_false rfl) fun h' S=>k h' ((DK.but (Heap.SameBut.update ..) c (AR h)).trans S)
  by_cases m:a=T
  ·clear J;subst m;obtain rfl:=(B6 c O);exact absurd K (AR h)
  ·exact(AQ o ((Heap.get?_update_other _ _ (Ne.symm m)).trans O) K)
 ·clear y b X;obtain rfl:=v;obtain⟨T,I,ts,N,n,j,i,c,h,d,g⟩:=B;refine AD (wpAny_field l hd n ?_);refine AB (if_pos (show(Value.ref T != Value.none)=true from by rfl)) ?_;refine AD (wpAny_field c h g ?_);refine AB (if_pos (show(rawInt L==rawInt L)=true from by first | (exact if_pos rfl;done) | exact beq_self_eq_true _)) ?_;exact AM (k s.heap (DK.refl _) x ⟨f,R,vs,l,D,hd,H,F,T,I,ts,N,n,j,i,c,h,d,g⟩)
theorem Hq {Q:Unit→Shared→Prop} {m m':Option Addr} (G:GH w s₀.heap) (x:Step w s₀ s) (X:Ep s₀.heap s.heap cls e (some m))
  (k:∀ h',DK s.heap h'→Step w s₀ { s with heap:=h' }→Ep s₀.heap h' cls e (some m')→Q () { s with heap:=h' }):wpAny M A (setFlight (.ref e) m') Q E s:=by
 obtain⟨d,r,vs,j,o,hd,z,p,T,C,ts,u,l,b,a,c,y,g,i⟩:=X;refine AD (wpAny_field j hd l ?_);refine AB (if_pos (show(Value.ref T != Value.none)=true from by rfl)) ?_;have n:=(Array.getElem?_eq_some_iff.mp i).1;refine wpAny_setField c y n (k _ (DK.but (Heap.SameBut.update ..) c (AR y)) (x.upd (t:=s.toks) G (Heap.SameBut.update ..) b c fun v q t B=>by refine Ar (PySem.Data.fields.inj ((y.symm.trans B))) ?_;refine AB g ?_;exact not_eq_of_beq_eq_false rfl) ?_);have h:=Obj.data_mapFields y (·.setIfInBounds 3 (m'.elim .none fun f=>rawInt f));exact⟨d,r,vs,((Heap.get?_update_other _ _ a).trans j),o,hd,z,p,T,_,_,u,l,b,a,(Heap.get?_update_self _ c (Obj.isFreed_of_fields h)),h,(by simp [g]),(by cases m'<;>exact Array.getElem?_setIfInBounds_self_of_lt n)⟩
theorem leave {Q:Unit→Shared→Prop} {i:Option (Option Addr)} (l:A.frames=some (env::outer)) (n:CT w.base s.heap (env::outer)) (m:env.frame=some L)
  (G:GH w s₀.heap) (x:Step w s₀ s) (X:Ep s₀.heap s.heap cls e i) (j:i=none∨i=some none∨i=some (some L))
  (k:∀ h',DK s.heap h'→Step w s₀ { s with heap:=h' }→Ep s₀.heap h' cls e (some none)→Q () { s with heap:=h' }):wpAny M A (leaving env (.ref e)) Q E s:=by
 unfold leaving;exact AD (note l n m G x X j fun b d f g=>Hq (s:={ s with heap:=b }) G f g fun a y c h=>k a (d.trans y) c h)
end
set_option genSizeOf false in
inductive Out where
 |ret (pv:PV)
 |exc (cls:Value)
noncomputable def Hr (w:Wd) (names:BC) (oc:List Str) (n:Nat) (own:Option Str) (pe:PE) (body:List Stmt) (out:Out) (s₀:Shared):Prop:=
 ∀ (A:Around) (env:Env) (outer:List Env) (s:Shared) (Q:Flow→Shared→Prop) (E:Value→Shared→Prop),A.frames=some (env::outer)→env.frame=some env.locals→Fm w names oc n A env s₀ own s pe→
  (match out with
   |.ret pv=>∀ v s',Step w s₀ s'→BA s'.heap pv v→Q (.ret v) s'
   |.exc cls=>∀ e st s',(st=none∨st=some none∨st=some (some env.locals))→CT w.base s'.heap (env::outer)→Step w s₀ s'→Ep s₀.heap s'.heap cls e st→E (.ref e) s')→
  wpAny (MD w) A (execs body env) Q E s
noncomputable def Bo (w:Wd) (names:BC) (oc:List Str) (n:Nat) (own:Option Str) (pe:PE) (body:List Stmt) (out:Out):Prop:=∀ s₀,Hr w names oc n own pe body out s₀
noncomputable def Pb (w:Wd) (s:Shared) (out:Out) (Q:Value→Shared→Prop) (E:Value→Shared→Prop):Prop:=
 match out with
 |.ret pv=>∀ v s',Step w s s'→BA s'.heap pv v→Q v s'
 |.exc cls=>∀ e s',Step w s s'→Ep s.heap s'.heap cls e (some none)→E (.ref e) s'
noncomputable def Dm (w:Wd) (n:Nat) (f:Value) (SJ:List PV) (nm:List Str) (XF:List PV) (out:Out):Prop:=
 ∀ (A:Around) (s:Shared) (Q:Value→Shared→Prop) (E:Value→Shared→Prop) (vs ks:List Value),GH w s.heap→BS w n A s→Bs s.heap SJ vs→Bs s.heap XF ks→
  Pb w s out Q E→wpAny (MD w) A (call f vs (nm.zip ks)) Q E s
theorem lk {k:List (Str×Addr)} {nm x:Str} {c:Addr} (h:((nm,a)::k).lookup x=some c):(x=nm∧a=c)∨k.lookup x=some c:=by
 rw [List.lookup_cons]at h;cases e:x==nm with
 |true=>rw [e]at h;exact .inl ⟨beq_iff_eq.mp e,Ai h⟩
 |false=>rw [e]at h;exact .inr h
theorem XI {h:Type _} {e:Type _} [BEq h] [LawfulBEq h] {k:List (h×e)} {x:h} {a:e} : ((x,a)::k).lookup x=some a:=by refine Eq.trans List.lookup_cons ?_;refine AB (beq_self_eq_true ..) ?_;rfl
theorem Wg {e:Type _} {y:Type _} [BEq e] [LawfulBEq e] {k:List (e×y)} {nm x:e} {a:y} (h:x≠nm):((nm,a)::k).lookup x=k.lookup x:=by refine Eq.trans List.lookup_cons ?_;refine AB (beq_false_of_ne h) ?_;rfl
theorem SM {lo:Nat} (f:List (Str×NameKind)):∀ (h:Heap) (k:List (Str×Addr)),lo≤h.objs.size→(∀ x c,k.lookup x=some c→c<h.objs.size)→(∀ x y c,lo≤c→k.lookup x=some c→k.lookup y=some c→x=y)→(∀ x c,lo≤c→k.lookup x=some c→h.IsCell c none)→
  (∀ x,(x,NameKind.cell)∈f∨(∃ c,lo≤c∧k.lookup x=some c)→∃ c,lo≤c∧(cellsFrom h.objs.size f k).lookup x=some c)∧(∀ x,(x,NameKind.cell)∉f→(cellsFrom h.objs.size f k).lookup x=k.lookup x)∧
  (∀ x y c,lo≤c→(cellsFrom h.objs.size f k).lookup x=some c→(cellsFrom h.objs.size f k).lookup y=some c→x=y)∧∀ x c,lo≤c→(cellsFrom h.objs.size f k).lookup x=some c→(pushCells h f).IsCell c none:=by
 induction f with
 |nil=>exact fun h k w w m j=>(EX (fun x g=>g.resolve_left List.not_mem_nil) (fun w w=>rfl) m j)
 |cons p r d=>
  intro h k t l m j;unfold cellsFrom pushCells
  by_cases i:p.2 == .cell
  ·refine AB (if_pos i) ?_;refine AB (if_pos i) ?_;have d:=d (h.push { cls:=.type "cell",data:=.cell none }) ((p.1,h.objs.size)::k);replace d:=(Heap.size_push ..)▸d;obtain⟨D,B,C⟩:=d (Nat.le_succ_of_le t) (fun x c e=>(lk e).elim (fun q=>q.2▸Nat.lt_succ_self _) fun q=>Nat.lt_succ_of_lt (l x c q))
    (fun x y c u g z=>(lk g).elim (fun p=>(lk z).elim (fun q=>p.1.trans q.1.symm) fun q=>absurd (l _ _ q) (p.2▸Nat.lt_irrefl _)) fun p=>(lk z).elim (fun q=>absurd (l _ _ p) (q.2▸Nat.lt_irrefl _)) fun q=>m x y c u p q)
    (fun x c u e=>(lk e).elim (fun q=>q.2▸(AQ _ (BD _ rfl) rfl)) fun q=>(j x c u q).keeps fun b o e=>Br _ e)
   refine(B2 (fun x g=>D x ?_) (fun x g=>(B x fun v=>g (.tail _ v)).trans (Wg fun e=>g (by refine AB e ?_;refine Ar (beq_iff_eq.mp i) ?_;exact .head _))) C)
   by_cases e:x=p.1
   ·exact .inr (AQ _ t (e▸XI))
   ·exact g.imp (fun g=>(List.mem_cons.mp g).resolve_left fun q=>e (congrArg Prod.fst q)) fun q=>AF q fun c a b=>AQ c a ((Wg e).trans b)
  ·refine AB (if_neg i) ?_;refine AB (if_neg i) ?_;have d:=d h k t l m j;exact(B2 (fun x g=>d.1 x (g.imp_left fun g=>(List.mem_cons.mp g).resolve_left fun q=>i (by refine Ar q ?_;rfl))) (fun x g=>d.2.1 x fun v=>g (.tail _ v)) d.2.2)
noncomputable def PE.sets (pe:PE):List (Str×PV)→PE
 |[]=>pe
 |(x,v)::r=>PE.sets (pe.set x v) r
noncomputable def Ct (names:List (Str×NameKind)):List Str:=names.filterMap fun p=>if p.2 == .cell then some p.1 else none
set_option tactic.hygienic true in
theorem Pc {names:List (Str×NameKind)} {x:Str} (h:x∈Ct names):(x,NameKind.cell)∈names:=by
 refine AF (List.mem_filterMap.mp h) fun y g e=>?_;obtain⟨a,k⟩:=y;simp only at e;split at e
 ·rename_i hk;refine Ar (Ai e) ?_;rw [beq_iff_eq.mp hk]at g;exact g
 ·injection e
noncomputable def namesOk (names:List (Str×NameKind)):Bool:=names.all fun p=>p.2 != .cell||names.lookup p.1==some .cell
theorem Pd {names:List (Str×NameKind)} (h:namesOk names=true) {y:Str} (e:names.lookup y=some .free):(y,NameKind.cell)∉names:=fun k=>by
 have:=List.all_eq_true.mp h _ k;replace this:=e▸this;injection this
theorem Ep.old {y x:Heap} {e:Addr} {g:Option (Option Addr)} (X:Ep x h cls e g) (k:∀ a,x.get? a=none→y.get? a=none):Ep y h cls e g:=by
 refine EH (X) fun i l vs a b c d f m=>?_;refine(C0 (k e i) l vs a b c d f ?_)
 clear X;induction g with
 |none=>exact m
 |some m'=>refine D5 (m) fun T j ts L p q r=>?_;exact(Hg T j ts L p (k T q) r)
section
variable {w:Wd} {names:BC} {oc:List Str} {n:Nat} {A:Around} {env:Env} {s₀ s s':Shared} {own:Option Str} {pe:PE}
theorem Pe {l:Around} (f:Str×Value→PUnit→Sem (ForInStep PUnit)) (i:∀ n v u,f (n,v) u=(do storeName env n v;pure (.yield ⟨⟩)))
  (bs:List (Str×PV)):∀ (binds:List (Str×Value)) (own:Option Str) (pe:PE) (s:Shared) (Q:PUnit→Shared→Prop),binds.map (·.1)=bs.map (·.1)→Bs s₀.heap (bs.map (·.2)) (binds.map (·.2))→
   (∀ p∈bs,names.lookup p.1=some .local∨(p.1∈oc∧names.lookup p.1=some .cell))→Fm w names oc n A env s₀ own s pe→
   (∀ s',Fm w names oc n A env s₀ none s' (pe.sets bs)→Q ⟨⟩ s')→wpAny M l (forIn binds ⟨⟩ f) Q E s:=by
 induction bs with
 |nil=>
  intro binds own pe s Q e _ _ F k;obtain rfl:=List.map_eq_nil_iff.mp e;exact AM (k s F.disown)
 |cons b bs d=>
  intro binds own pe s Q e r a F k
  induction binds with
  |nil=>injection e
  |cons v binds _=>
   induction v with
   |mk y v=>
    induction b with
    |mk x pv=>
     obtain⟨m,c⟩:=List.cons.inj e;obtain rfl:y=x:=m;refine AB (List.forIn_cons ..) ?_;refine AB (i y v ⟨⟩) ?_;refine AD (AD (B4 F (a (y,pv) D1) (r.1.step F.st F.g0) none (fun z h=>by injection h) fun s₁ g z z z=>AM ?_));exact d binds none _ s₁ Q c r.2 (fun p j=>a p (.tail _ j)) g k
noncomputable def Iy (fd:FuncData):BC:=⟨fd.scope.names,fd.code,fd.qualname++".<locals>."⟩
theorem Je {env:Env} {x:Str} {c:Addr} (k:env.kindOf x=some .cell∨env.kindOf x=some .free) (e:env.cells.lookup x=some c) (i:h.IsCell c (some v)):AZ h env x v:=by
 unfold AZ;rcases k with k | k<;>(refine AB k ?_;exact(AQ c e i))
structure Laid (w:Wd) (s₀ s:Shared) (sn:List (Str×NameKind)) (cl:List (Str×Addr)) (L:Addr) (cells:List (Str×Addr)) (Jf:Heap):Prop where
 st:Step w s₀ { s with heap:=Jf }
 kp:∀ b o,s.heap.get? b=some o→Jf.get? b=some o
 ns:Jf.Ns L fun _=>none
 lf:s₀.heap.get? L=none
 lb:w.base.get? L=none
 off:∀ y,sn.lookup y=some .free→cells.lookup y=cl.lookup y
 HL:∀ x∈Ct sn,∃ c v,cells.lookup x=some c∧Jf.IsCell c v∧s₀.heap.get? c=none∧∀ y,cells.lookup y=some c→y=x
noncomputable def envOf (scope:Scope) (globals:Addr) (qual:Str) (func:Option Addr) (code:Value) (builtins:Addr) (locals:Addr) (cells:List (Str×Addr)):Option Env→Env
 |some outer=>{ scope,locals,globals,cells,qual,func,code:=outer.code,frame:=outer.frame,builtins:=outer.builtins }
 |none=>{ scope,locals,globals,cells,qual,func,code,frame:=some locals,builtins }
theorem cN {F:Around} {u:Addr} {l:List (Str×Addr)} {binds:List (Str×Value)} {r:Option Addr} {C:Value} {m:Option Env} {Q:Env→Shared→Prop} (G:GH w s₀.heap) (x:Step w s₀ s) (B:∀ p∈l,∃ v,s₀.heap.IsCell p.2 v) (D:namesOk sc.names=true)
  (k:∀ L g d,Laid w s₀ s sc.names l L g d→wpAny M F (forIn binds PUnit.unit (fun p n=>storeName (envOf sc z q r C u L g m) p.1 p.2>>=fun n=>pure (.yield PUnit.unit))>>=fun n=>pure (envOf sc z q r C u L g m)) Q E { s with heap:=d }) :
  wpAny M F (newFunctionEnv sc z l binds q r C m u) Q E s:=by
 refine AD (wpAny_alloc (AD (wpAny_layCells _ (fun n n n=>rfl) _ _ _ _ ?_)));have i:∀ x c,l.lookup x=some c→c<s.heap.objs.size:=fun a c e=>Ap (B _ (mem_of_lookup e)) fun n h=>(x.cell G h).lt;have lf:s₀.heap.get? s.heap.objs.size=none:=x.gone G (fresh_at _);have I:∀ o:Obj,(s.heap.push o).objs.size=s.heap.objs.size+1:=fun o=>Heap.size_push ..;refine FX (SM (lo:=s.heap.objs.size+1) sc.names (s.heap.push { cls:=.type (if m.isSome then "dict" else "frame"),data:=.dict #[] }) l (Nat.le_of_eq (I _).symm) (fun a c e=>I _▸Nat.lt_succ_of_lt (i a c e)) (fun a y c f K n=>absurd (i a c K) (Nat.not_lt_of_ge (Nat.le_of_succ_le f))) (fun a c f e=>absurd (i a c e) (Nat.not_lt_of_ge (Nat.le_of_succ_le f)))) fun P N S T=>?_;have H:∀ b o,s.heap.get? b=some o→(pushCells (s.heap.push { cls:=.type (if m.isSome then "dict" else "frame"),data:=.dict #[] }) sc.names).get? b=some o:=fun b o e=>pushCells_keeps _ _ b o (Br _ e);exact k _ _ _ ⟨x.trans (Step.of_keeps (t:=s.toks) H),H,(Heap.Ns.new s.heap _).keeps (pushCells_keeps _ _),lf,Option.eq_none_iff_forall_ne_some.mpr fun o e=>Ap (G.sub _ _ e) fun n R=>(nomatch lf.symm.trans R),fun y h=>N y (Pd D h),
  fun a O=>AF (P a (.inl (Pc O))) fun c j f=>(E9 c none f (T a c j f) (x.gone G (Heap.get?_none_of_le (Nat.le_of_succ_le j))) (fun y J=>S y a c j J f))⟩
theorem VT {d n:Nat} (h:d+(n+1)≤900):d+1+n≤900:=AJ (Nat.le_of_eq (Nat.add_right_comm d 1 n)) h
theorem Z0 {u n:Nat} (h:u+20*(n+1)≤9000):u+3+20*n≤9000:=ZR h
theorem enter {R:Around} {f:Addr} {binds:List (Str×Value)} {bs:List (Str×PV)} {Q:Env→Shared→Prop}
  (G:GH w s.heap) (r:BS w (n+1) A s)
  (J:∀ p∈fd.closure,∃ v,s.heap.IsCell p.2 v) (H:∀ y pv,pc y=some pv→fd.scope.names.lookup y=some .free∧∃ c v,fd.closure.lookup y=some c∧s.heap.IsCell c (some v)∧BA s.heap pv v)
  (I:binds.map (·.1)=bs.map (·.1)) (T:Bs s.heap (bs.map (·.2)) (binds.map (·.2))) (D:∀ p∈bs,fd.scope.names.lookup p.1=some .local∨(p.1∈Ct fd.scope.names∧fd.scope.names.lookup p.1=some .cell))
  (k:∀ env b g,A.frames=some b→env.frame=some env.locals→CT w.base g.heap (env::b)→Fm w (Iy fd) (Ct fd.scope.names) n (A.deeper env) env s none g (pc.sets bs)→Q env g)
  (K:namesOk fd.scope.names=true) (C:fd.globals=mainGlobals) (F:fd.builtins=builtinsNs) (N:fd.scope.kind = .function) :
  wpAny M R (newFunctionEnv fd.scope fd.globals fd.closure binds (fd.qualname++".<locals>.") (some f) fd.code none fd.builtins) Q E s:=by
 refine cN G (Step.refl w s) J K fun L j t X=>?_;refine AF (r.f) fun l hl U=>?_;refine BR (id X.ns) fun o es O e d Z=>?_;refine AD (Pe (A:=A.deeper (envOf fd.scope fd.globals (fd.qualname++".<locals>.") (some f) fd.code fd.builtins L j none)) _ (fun Z Z Z=>rfl) bs binds none pc { s with heap:=t } _ I T D ⟨⟨⟨rfl,rfl,rfl,N,C,F⟩,X.st.gh G,⟨r.h,VT r.d,Z0 r.u,⟨_,Around.frames_deeper hl,And.intro (fun e=>nomatch (N.symm.trans e:ScopeKind.function = .module)) (And.intro ⟨L,o,rfl,X.lb,e,es,O,d⟩ (U.step X.st))⟩,r.tk⟩,fun x pv S=>?_⟩,G,X.st,⟨_,X.ns⟩,X.lf,X.lb,X.HL,fun Z h=>nomatch h⟩ fun g i=>AM (k _ l g hl rfl ?_ i))
 ·refine Fs (H x pv S) fun a c v P m q=>?_;exact(AQ v (Je (.inr a) ((X.off x a).trans P) (m.keeps X.kp)) (q.step X.st G))
 ·refine AF (i.cx.ok.f) fun V z B=>?_;rw [Around.frames_deeper hl]at z;exact Ai z▸B
theorem Mm {f:Addr} {o:Obj} {vs:List Value} {kw:List (Str×Value)} {binds:List (Str×Value)} {bs:List (Str×PV)} {out:Out}
  (G:GH w s.heap) (I:BS w (n+1) A s) (L:s.heap.get? f=some o) (i:o.data = .func fd) (a:fd.body = .stmts body) (O:BindsTo s fd ⟨vs,kw⟩ binds) (B:s.heap.CodeRec fd.code fd.qualname)
  (F:∀ p∈fd.closure,∃ v,s.heap.IsCell p.2 v) (z:∀ y pv,pc y=some pv→fd.scope.names.lookup y=some .free∧∃ c v,fd.closure.lookup y=some c∧s.heap.IsCell c (some v)∧BA s.heap pv v)
  (D:binds.map (·.1)=bs.map (·.1)) (P:Bs s.heap (bs.map (·.2)) (binds.map (·.2))) (g:∀ p∈bs,fd.scope.names.lookup p.1=some .local∨(p.1∈Ct fd.scope.names∧fd.scope.names.lookup p.1=some .cell))
  (J:Hr w (Iy fd) (Ct fd.scope.names) n none (pc.sets bs) body out s)
  (k:Pb w s out Q E)
  (H:namesOk fd.scope.names=true) (q:fd.globals=mainGlobals) (t:fd.builtins=builtinsNs)
  (u:fd.scope.isCoroutine=false) (j:fd.scope.isGenerator=false) (R:fd.scope.kind = .function) :
  wpAny (MD w) A (call (.ref f) vs kw) Q E s:=by
 refine wpAny_call (codeAny_call_function (prog:=PR) (w:=w.w) (by have:=I.d;show A.depth<1000;exact Nu this) L i u j a B (O _ _ _ _ ?_));refine enter G I F z D P g (fun env l m hl K C h=>⟨h.cx.gh.nolimit,codeAny_func ?_⟩) H q t R;refine J (A.deeper env) env l m _ _ (Around.frames_deeper hl) K h ?_;clear J;induction out with
 |ret pv=>exact fun v s' x r=>k v s' x r
 |exc cls=>
  intro e S s' g b x X;exact leave (Around.frames_deeper hl) b K G x X g fun h' Z M N=>k e _ M N
theorem Pf {f:Addr} {o:Obj} {body:Expr} {vs:List Value} {kw:List (Str×Value)} {binds:List (Str×Value)} {bs:List (Str×PV)} {out:Out}
  (G:GH w s.heap) (J:BS w (n+1) A s) (L:s.heap.get? f=some o) (m:o.data = .func fd) (j:fd.body = .expr body) (O:BindsTo s fd ⟨vs,kw⟩ binds) (D:s.heap.CodeRec fd.code fd.qualname)
  (H:∀ p∈fd.closure,∃ v,s.heap.IsCell p.2 v) (C:∀ y pv,pc y=some pv→fd.scope.names.lookup y=some .free∧∃ c v,fd.closure.lookup y=some c∧s.heap.IsCell c (some v)∧BA s.heap pv v)
  (F:binds.map (·.1)=bs.map (·.1)) (P:Bs s.heap (bs.map (·.2)) (binds.map (·.2))) (u:∀ p∈bs,fd.scope.names.lookup p.1=some .local∨(p.1∈Ct fd.scope.names∧fd.scope.names.lookup p.1=some .cell))
  (K:∀ (env:Env) (b:Shared) (Q:Value→Shared→Prop) (E:Value→Shared→Prop),Fm w (Iy fd) (Ct fd.scope.names) n (A.deeper env) env s none b (pc.sets bs)→Pb w b out Q E→wpAny (MD w) (A.deeper env) (eval body env) Q E b)
  (k:Pb w s out Q E)
  (I:namesOk fd.scope.names=true) (t:fd.globals=mainGlobals) (z:fd.builtins=builtinsNs)
  (B:fd.scope.isCoroutine=false) (q:fd.scope.isGenerator=false) (S:fd.scope.kind = .function) :
  wpAny (MD w) A (call (.ref f) vs kw) Q E s:=by
 refine wpAny_call (kla_callFunE (prog:=PR) (w:=w.w) (Nu J.d) L m B q j D (O _ _ _ _ ?_));refine enter G J H C F P u (fun env l b hl R i g=>⟨g.cx.gh.nolimit,kla_codeExpr ?_⟩) I t z S;refine K env b _ _ g ?_;clear K;induction out with
 |ret pv=>exact fun v s' x r=>k v s' (g.st.trans x) r
 |exc cls=>
  intro e s' x X;exact leave (Around.frames_deeper hl) (i.step x) R G (g.st.trans x) (X.old fun a h=>g.st.gone G h) (.inr (.inl rfl)) fun h' Z M N=>k e _ M N
end
section
variable {w:Wd} {names:BC} {oc:List Str} {n:Nat} {own own':Option Str} {pe pe':PE} {out:Out}
theorem AN {g:Stmt} {e:List Stmt} (h:N1 w names oc n own pe g own' pe') (b:Bo w names oc n own' pe' e out):Bo w names oc n own pe (g::e) out:=
 fun s₀ A env x s Q E a hl F k=>wpAny_execs_cons (h A env s₀ s _ E F fun s₁ y=>b s₀ A env x s₁ Q E a hl y k)
theorem CA {x:List Stmt} (a:Ev w names n pe e pv):Bo w names oc n own pe (.Return (some e) pos::x) (.ret pv):=
 fun s₀ A env g s Q E b hl F k=>wpAny_execs_cons (wpAny_Return_some (a A env s _ E F.cx fun v s₁ y h=>k v s₁ (F.st.trans y) h))
theorem Er {t:Expr} {e:List Stmt} {y:List Stmt} (b:Tr w names n pe t true) (h:Bo w names oc n own pe body out):Bo w names oc n own pe (.If t body e pos::y) out:=
 fun s₀ A env x s Q E a hl F k=>wpAny_execs_cons (wpAny_If (b A env s _ E F.cx fun s₁ g=>by
  refine h s₀ A env x s₁ _ E a hl (F.step g) ?_;clear h;induction out with
  |ret pv=>exact k
  |exc cls=>exact k))
theorem BW {t:Expr} {e:List Stmt} (a:Tr w names n pe t false) (h:Bo w names oc n own pe e out):Bo w names oc n own pe (.If t body [] pos::e) out:=
 fun s₀ A env x s Q E g hl F k=>wpAny_execs_cons (wpAny_If (a A env s _ E F.cx fun s₁ y=>wpAny_execs_nil (h s₀ A env x s₁ Q E g hl (F.step y) k)))
theorem Pg {o o':Out} (h:Bo w names oc n own pe body o) (e:o=o'):Bo w names oc n own pe body o':=e▸h
end
theorem Step.D8 (k:∀ b o,s.heap.get? b=some o→s'.heap.get? b=some o) (y:s'.os=s.os) (c:s'.gens=s.gens) (g:autoParam (s.toks≤s'.toks) Nt):Step w s s':=
 ⟨fun a o z z e=>k a o e,fun a o e z=>⟨o.slots,k a o e⟩,fun z z d e=>⟨#[],by exact k _ _ e⟩,fun h p x=>(h p x).keeps k,y,(fun h=>by refine AB c ?_;exact h),g⟩
noncomputable def A5 (ns:List Int):List FV:=ns.map .int
theorem Jg {ns:List Int} : ∀ {vs:List Value},Al (A5 ns) vs→IntsAre vs ns:=by
 induction ns with
 |nil=>
  intro vs h;induction vs with
  |nil=>exact .nil
  |cons=>exact h.elim
 |cons i ns k=>
  intro vs h;induction vs with
  |nil=>exact h.elim
  |cons v vs=>exact Ap (h.1) fun t e=>e▸.cons i t (k h.2)
theorem SN {ns:List Int} {vs:List Value} (h:IntsAre vs ns):Al (A5 ns) vs:=by
 induction h with
 |nil=>trivial
 |cons i t h k=>exact⟨⟨t,rfl⟩,k⟩
theorem BP {vs:List Value} (r:Bs h [pv] vs):∃ v,vs=[v]∧BA h pv v:=by
 induction vs with
 |nil=>exact r.elim
 |cons v k=>induction k with
  |nil=>exact(AQ v rfl r.1)
  |cons=>exact r.2.elim
theorem Bi {p q:PV} {vs:List Value} (r:Bs h [p,q] vs):∃ v u,vs=[v,u]∧BA h p v∧BA h q u:=by
 cases vs with
 |nil=>exact r.elim
 |cons v e=>refine AF (BP (h:=h) (pv:=q) r.2) fun u k h=>?_;obtain rfl:=k;exact(Bl v u rfl r.1 h)
theorem A6 {vs:List Value} (r:Bs h [] vs):vs=[]:=by
 induction vs with
 |nil=>rfl
 |cons=>exact r.elim
noncomputable def O4 (ns:List Int):Int:=ns.min?.getD 0
noncomputable def L4 (ns:List Int):Int:=ns.max?.getD 0
theorem VU {ns:List Int} {m:Int} (h:m∈ns) (k:∀ a∈ns,m≤a):O4 ns=m:=by
 unfold O4;rw [(List.min?_eq_some_iff).mpr ⟨h,k⟩];rfl
theorem VV {ns:List Int} {m:Int} (h:m∈ns) (k:∀ a∈ns,a≤m):L4 ns=m:=by
 unfold L4;rw [(List.max?_eq_some_iff).mpr ⟨h,k⟩];rfl
theorem Ph (ns:List Int) (j:Nat):j≤ns.length→preSum (fun i=>ns.getD i 0) j=(ns.take j).sum:=by
 induction j with
 |zero=>exact fun z=>rfl
 |succ j k=>
  intro h;rewrite [preSum];refine AB (k (Nat.le_of_lt h)) ?_;refine AB List.take_add_one ?_;refine AB List.sum_append ?_;simp [List.getD_eq_getElem?_getD,Nat.lt_of_succ_le h]
section
variable {w:Wd} {n:Nat}
theorem L5 (y:xs.length≤1000):Hl w n (.builtin "len") [.list xs] [] [] (.fv (.int xs.length)):=fun A s Q E vs ks G d r c k=>by
 refine D4 (BP r) fun v h a b e hl g=>?_;clear r;obtain rfl:=h;obtain rfl:=e;obtain rfl:=A6 c;have x:b.toArray.size=xs.length:=g.length;refine Ak (call_len_list hl (by refine AB x ?_;exact Kc (Hd y) (DY rfl)) fun m=>k _ _ (Step.toks s _ m) ⟨_,by exact int_at (congrArg Nat.cast x)⟩)
theorem Jh {ns:List Int} : Hl w n (.builtin "sum") [.list (A5 ns)] [] [] (.fv (.int ns.sum)):=fun A s Q E vs ks G C r I k=>by
 refine D4 (BP r) fun v c a l f hl q=>?_;obtain rfl:=c;obtain rfl:=f;obtain rfl:=A6 I;refine call_sum_walkAnyS (wpAny_pyIter_list hl ?_);have p:a≠s.heap.objs.size:=by refine AF (hl) fun o e Z=>?_;exact Nat.ne_of_lt (Heap.lt_size e)
 have x:l.toArray.size=ns.length:=(Jg q).length;refine⟨_,_,_,_,_,_,_,(fun i=>ns.getD i 0),rfl,((Walks.list (A:=A.in1) C.h s.heap.objs.size a p l.toArray).toS),⟨⟨_,BD _ rfl,rfl,rfl⟩,?_⟩,?_,?_,(fun s' H y=>?_)⟩
 ·refine AF (hl) fun o e r=>?_;exact(AQ o (Br _ e) r)
 ·intro b u;simp only [List.mem_cons,List.not_mem_nil,or_false]at u;refine AB (show({ s with heap:=s.heap.push { cls:=.type "list_iterator",data:=.fields #[.ref a,.int 0 0] } } : Shared).heap.objs.size=s.heap.objs.size+1 from Heap.size_push ..) ?_;refine Or.elim u (fun g=>?_) (fun j=>?_)
  ·refine AB g ?_;exact Nat.lt_succ_self _
  ·refine AB j ?_;refine AF (hl) fun o e Z=>?_;exact Nat.lt_succ_of_lt (Heap.lt_size e)
 ·intro i v B;have:l[i]? = some v:=by simpa using B
  refine AF (Al.get q this) fun m y D=>?_;rw [A5,List.getElem?_map,Option.map_eq_some_iff]at y;refine AF (y) fun z F d=>?_;obtain rfl:=d;refine Ap (D) fun t e=>?_;exact⟨t,by refine Eq.trans e ?_;show _=Value.int (ns.getD i 0) t;rw [List.getD_eq_getElem?_getD,F];rfl⟩
 ·refine k _ s' (Step.D8 (fun b o e=>?_) y.os y.gens y.toks) ⟨H,by refine AB (Ph _ _ (Nat.le_of_eq x)) ?_;refine AB x ?_;refine AB List.take_length ?_;rfl⟩;exact y.heap b o (not_iter_of_old e) (Br _ e)
theorem I0 {ns:List Int} {vs:List Value} (h:IntsAre vs ns):∃ xs:Array (Int×Tok),vs.toArray=intItems xs∧ns=xs.toList.map (·.1):=by
 obtain⟨xs,e⟩:=h.allInts.items;exact⟨xs,e,by refine Ar h.numsOf ?_;refine Eq.trans ?_ (nums_intItems ..);refine Ar e ?_;rfl⟩
theorem VW {ns:List Int} (u:ns≠[]):Hl w n (.builtin "min") [.list (A5 ns)] [] [] (.fv (.int (O4 ns))):=fun A s Q E vs ks G o r z k=>by
 refine D4 (BP r) fun v y a C g hl l=>?_;clear r;obtain rfl:=y;obtain rfl:=g;obtain rfl:=A6 z;refine AF (I0 (Jg l)) fun xs e c=>?_;have hsz:0<xs.size:=by
  have:0<ns.length:=List.length_pos_iff.mpr u;rw [c,List.length_map,Array.length_toList]at this;exact this
 replace hl:=e▸hl;refine Ak (min_intList o.h hl hsz fun v h' tk f p m=>?_);refine Ap (intItems_at f) fun t b=>?_;clear f;obtain rfl:=b;refine Bt (argBest_lt (numAt xs) (xs.size-1)) fun q B=>?_;refine k _ _ (Step.of_keeps p) ⟨t,?_⟩;rw [VU (m:=numAt xs _) ?_ fun a d=>?_]
 ·refine AB c ?_;refine AB (numAt_eq ..) ?_;exact getD_mem (by refine AB (List.length_map ..) ?_;refine AB Array.length_toList ?_;exact Nat.lt_of_le_pred hsz q)
 ·rw [c]at d;refine AF (mem_getD d) fun j i x=>?_;clear d;obtain rfl:=x;rw [List.length_map,Array.length_toList]at i;refine Ar (numAt_eq ..) ?_;exact B j ((Nat.le_sub_one_iff_lt hsz).mpr i)
theorem VX {ns:List Int} (u:ns≠[]):Hl w n (.builtin "max") [.list (A5 ns)] [] [] (.fv (.int (L4 ns))):=fun A s Q E vs ks G o r z k=>by
 refine D4 (BP r) fun v x a C g hl l=>?_;clear r;obtain rfl:=x;obtain rfl:=g;obtain rfl:=A6 z;refine AF (I0 (Jg l)) fun xs e c=>?_;have hsz:0<xs.size:=by
  have:0<ns.length:=List.length_pos_iff.mpr u;rw [c,List.length_map,Array.length_toList]at this;exact this
 replace hl:=e▸hl;refine Ak (max_intList o.h hl hsz fun v h' tk f p m=>?_);refine Ap (intItems_at f) fun t b=>?_;clear f;obtain rfl:=b;refine Bt (argBest_gt (numAt xs) (xs.size-1)) fun q B=>?_;refine k _ _ (Step.of_keeps p) ⟨t,?_⟩;rw [VV (m:=numAt xs _) ?_ fun a d=>?_]
 ·refine AB c ?_;refine AB (numAt_eq ..) ?_;exact getD_mem (by refine AB (List.length_map ..) ?_;refine AB Array.length_toList ?_;exact Nat.lt_of_le_pred hsz q)
 ·rw [c]at d;refine AF (mem_getD d) fun j i y=>?_;clear d;obtain rfl:=y;rw [List.length_map,Array.length_toList]at i;refine Ar (numAt_eq ..) ?_;exact B j (R7 i)
theorem Hs (hl:h.IsList a vs):∃ e n x,h.get? a=some { cls:=.type "list",dict:=e,data:=.seq vs n,slots:=x }:=by
 refine B0 (hl) fun k g y n hd=>?_;obtain⟨cls,e,data,x⟩:=k;simp only at y hd;subst y hd;exact(Mk e n x g)
variable {names:BC} {pe:PE}
theorem F5 {l r:Expr} (hl:Ev w names n pe l (.list xs)) (v:Ev w names n pe r (.list ys)) (D:xs.length+ys.length≤1000):FD w names n pe (.BinOp l .Add r pos) (xs++ys):=
 fun A env s Q E C k=>wpAny_BinOp (hl A env s _ E C fun H s₁ h j=>v A env s₁ _ E (C.step h) fun I q e i=>by
  refine AW ((j.step e (C.step h).gh)) fun a c x la m=>?_;clear j;obtain rfl:=x;refine AW (i) fun b g y z p=>?_;clear i;obtain rfl:=y;refine Cg (Hs la) fun G t u g1=>?_;refine Cg (Hs z) fun f B d o=>?_;refine concat_meets (AQ _ g1 rfl) (AQ _ o rfl) noFill_list_add seq_list_add PySem.F.slot_list_add PySem.F.entry_list_add (PySem.F.args_list_add_2 _ _)
   (list_addW a b c.toArray g.toArray t B G f u d (by
    show c.length+g.length≤sizeLine;refine AB m.length ?_;refine AB p.length ?_;exact D3 D)) (B2 g1 o ?_)
  refine AB (List.append_toArray c g:c.toArray++g.toArray=(c++g).toArray) ?_;exact k _ (c++g) _ ((h.trans e).trans (Step.push _ _)) ((h.trans e).gone C.gh (fresh_at _)) ⟨_,BD _ rfl⟩ (m.append p))
theorem Al.drop {fs vs} (k:Nat):Al fs vs→Al (fs.drop k) (vs.drop k):=by
 induction k generalizing fs vs with
 |zero=>exact id
 |succ k e=>exact fun h=>h.ind (M:=fun fs vs=>Al (fs.drop (k+1)) (vs.drop (k+1))) trivial fun z z z z z r z=>e r
theorem Al.take {fs vs} (k:Nat):Al fs vs→Al (fs.take k) (vs.take k):=by
 induction k generalizing fs vs with
 |zero=>exact fun z=>trivial
 |succ k e=>exact fun h=>h.ind (M:=fun fs vs=>Al (fs.take (k+1)) (vs.take (k+1))) trivial fun z z z z r h z=>⟨r,e h⟩
noncomputable def Z1 (w:Wd) (names:BC) (n:Nat) (pe:PE) (e:Option Expr) (k:Option Int):Prop:=
 match e,k with
 |none,none=>True
 |some e,some i=>Ev w names n pe e (.fv (.int i))
 |_,_=>False
theorem cO {e:Option Expr} {k:Option Int} (h:Z1 w names n pe e k) (C:Cx w names n A env s pe)
  (q:∀ v s',Step w s s'→IsPart v k→Q v s'):wpAny (MD w) A (evalPart e env) Q E s:=by
 induction e with
 |none=>induction k with
  |none=>exact AM (q _ _ (Step.refl w s) .none)
  |some=>exact h.elim
 |some e=>induction k with
  |none=>exact h.elim
  |some i=>exact h A env s _ E C fun v s' x r=>by obtain⟨t,rfl⟩:=r;exact q _ _ x (.int i t)
theorem Ny {k:Expr} {a g:Option Expr} {T id:String}
  (hl:typeLookup (.type T) "__getitem__" = pure (some (.builtin id)))
  (h:wpAny (MD w) A (eval k env) (fun o s₁=>wpAny (MD w) A (eval (.Slice a g none p) env) (fun i e=>e.TypeIs o T∧wpAny (MD w) A (getItem o i) Q E e) E s₁) E s) :
  wpAny (MD w) A (eval (.Subscript k (.Slice a g none p) pos) env) Q E s:=by
 refine AB (eval_Subscript ..) ?_;refine AD (wpAny_mono h (fun o s₁ d=>AD (wpAny_holding (wpAny_mono d (fun i e y=>AD (wpAny_standAt ?_)) fun z z x=>x)))
  fun z z x=>x)
 have c:wpAny (MD w) A (operate [i,o] (getItem o i)) (fun r b=>wpAny (MD w) A (letTemporaryGo k o r>>=fun z=>pure r) Q E b) E e:=
  wpAny_operating (wpAny_mono y.2 (fun r b f=>AD (wpAny_letTemporaryGo (AM f))) fun z z x=>x)
 refine AD ?_;refine AB (getitemInPython_of_ne y.1.not_modules) ?_;refine AD (wpAny_specialOf y.1 hl ?_)
 first
  |exact AM (AD c)
  |exact AD (AM (AD c))
  |exact AD c
theorem Ht {x:Expr} {g y:Option Expr}
  (h:wpAny (MD w) A (eval x env) (fun o s₁=>wpAny (MD w) A (evalPart g env) (fun m c=>wpAny (MD w) A (evalPart y env) (fun i k=>
   ∃ l items lo j,o = .ref l∧k.heap.IsList l items∧items.size≤sizeLine∧IsPart m lo∧IsPart i j∧
    Q (.ref (k.heap.objs.size+1)) { k with heap:=(k.heap.push { cls:=.type "slice",data:=.fields #[m,i,.none] }).push { cls:=.type "list",data:=.seq (slicePick items lo j none) } }) E c) E s₁) E s) :
  wpAny (MD w) A (eval (.Subscript x (.Slice g y none p) pos) env) Q E s:=by
 refine Ny (T:="list") list_getitem_lookup (wpAny_mono h (fun o s₁ b=>wpAny_Slice (wpAny_mono b (fun m c a=>wpAny_mono a (fun i k d=>?_) fun z z e=>e) fun z z e=>e)) fun z z e=>e);refine El (d) fun l items lo j f hl hsz t q r=>?_;clear b d a;obtain rfl:=f;refine AB (evalPart_none ..) ?_;refine AM ⟨(hl.push _).typeIs,wpAny_getItem_list_slice (hl.push _) (Heap.IsSliceOf.new ..) t q .none (Ne.symm (Option.some_ne_none 0)) ?_ hsz⟩;rw [Heap.size_push];exact r
theorem D9 {l:Expr} {lo t:Option Expr} {a b:Option Int} (hl:Ev w names n pe l (.list xs)) (m:Z1 w names n pe lo a) (i:Z1 w names n pe t b) (G:xs.length≤1000)
  (z:∀ vs:List Value,Al xs vs→∃ c:List Value,slicePick vs.toArray a b none=c.toArray∧Al ys c) :
  FD w names n pe (.Subscript l (.Slice lo t none p) pos) ys:=
 fun A env s Q E C k=>Ht (hl A env s _ E C fun I s₁ e f=>cO m (C.step e) fun q u x D=>cO i ((C.step e).step x) fun j h y v=>by
  have f:=(f.step x (C.step e).gh).step y ((C.step e).step x).gh;refine AW (f) fun a' c g la r=>?_;obtain rfl:=g;refine AF (z c r) fun d B F=>?_;refine(G7 a' c.toArray a b rfl la ?_ D v ?_)
  ·show c.length≤sizeLine;refine AB r.length ?_;exact D3 G
  ·refine AB B ?_;have H:Step w h { h with heap:=(h.heap.push { cls:=.type "slice",data:=.fields #[q,j,.none] }).push { cls:=.type "list",data:=.seq d.toArray } }:=
    (Step.push h _).trans (Step.push { h with heap:=h.heap.push { cls:=.type "slice",data:=.fields #[q,j,.none] } } _)
   refine k _ d _ (((e.trans x).trans y).trans H) (((e.trans x).trans y).gone (w:=w) C.gh (Heap.get?_none_of_le (Nat.le_succ h.heap.objs.size))) ⟨0,?_⟩ F;have:=BD (h.heap.push { cls:=.type "slice",data:=.fields #[q,j,.none] }) (o:={ cls:=.type "list",data:=.seq d.toArray }) rfl;replace this:=(Heap.size_push ..)▸this;exact this)
theorem pick_from (a:Nat):∀ vs:List Value,Al xs vs→∃ k:List Value,slicePick vs.toArray (some (a:Int)) none none=k.toArray∧Al (xs.drop a) k:=
 fun vs h=>(AQ _ (slicePick_from' vs.toArray a) (h.drop a))
theorem I3 (b:Nat):∀ vs:List Value,Al xs vs→∃ k:List Value,slicePick vs.toArray none (some (b:Int)) none=k.toArray∧Al (xs.take b) k:=
 fun vs h=>(AQ _ (slicePick_upto' vs.toArray b) (h.take b))
end
set_option tactic.hygienic true in
theorem Fe {x:Str} (y:env.scope.kind = .function) (a:AZ s.heap env x v) (h:Q v s)
  (hd:autoParam ((x==("__debug__" : Str))=false) B8) (b:autoParam ((x==("__classdict__" : Str))=false) B8):wpAny M A (eval (.Name x pos) env) Q E s:=by
 refine wpAny_Name ?_ hd;unfold AZ at a;split at a
 ·rename_i e;refine AF (a) fun m g k=>?_;exact wpAny_loadName_local y e g k h
 ·rename_i e;refine AF (a) fun c hl k=>?_;exact wpAny_loadName_cell y e hl k h
 ·rename_i e;refine AF (a) fun c hl k=>?_;exact wpAny_loadName_free y e hl k h b
 ·exact a.elim
set_option tactic.hygienic true in
theorem AZ.uniq {x:Str} {u:Value} (k:AZ h env x u) (y:AZ h env x v):u=v:=by
 unfold AZ at k y;split at k
 ·rename_i e;replace y:=e▸y;obtain⟨m,⟨o,es,A,f,d,_,s⟩,g⟩:=k;obtain⟨q,⟨l,p,t,a,b,_,z⟩,g2⟩:=y;obtain rfl:=(B6 f a);obtain⟨rfl,rfl⟩:=PySem.Data.dict.inj ((d.symm.trans b));have:m x=q x:=by refine Eq.trans (s x).symm ?_;refine Eq.trans (z x) ?_;rfl
  replace this:=g.symm.trans this;replace this:=this.trans g2;refine AB (Ai this) ?_;rfl
 ·rename_i e;replace y:=e▸y;obtain⟨c,i,⟨o,f,d⟩⟩:=k;obtain⟨r,j,⟨l,a,b⟩⟩:=y;obtain rfl:=(B6 i j);obtain rfl:=(B6 f a);refine AB (Ai ((PySem.Data.cell.inj ((d.symm.trans b))))) ?_;rfl
 ·rename_i e;replace y:=e▸y;obtain⟨c,i,⟨o,f,d⟩⟩:=k;obtain⟨r,j,⟨l,a,b⟩⟩:=y;obtain rfl:=(B6 i j);obtain rfl:=(B6 f a);refine AB (Ai ((PySem.Data.cell.inj ((d.symm.trans b))))) ?_;rfl
 ·exact k.elim
theorem D7.quiet (k:D7 names env):interactive env=false:=by unfold interactive;refine AB k.kd ?_;rfl
section
variable {w:Wd} {names:BC} {oc:List Str} {n:Nat} {pe:PE}
theorem D' {x:Str} {z K:Pos} (B:pe x=some (.list xs)) (G:Ev w names n pe e (.fv f)) (N:xs.length≤1000) (L:autoParam (BK e=true) Dy) (y:autoParam ((z.endLine==pos.line)=true) Dy)
  (hd:autoParam ((x==("__debug__" : Str))=false) B8) (D:autoParam ((x==("__classdict__" : Str))=false) B8) :
  N1 w names oc n (some x) pe (.Expr (.Call (.Attribute (.Name x np) "append" z) [e] [] pos) K) (some x) (pe.set x (.list (xs++[f]))):=
 fun A env s₀ s Q E F k=>wpAny_Expr_any (by
  refine DU (Ho F) fun a b vs p q l r M=>?_;replace p:=B▸p;obtain rfl:xs=b:=by refine AB (Internal.PV.list.inj ((Ai p))) ?_;rfl
  have d:backTo pos (starEach [e] env)=[(false,eval e env)]:=by refine AB (BV L) ?_;rfl
  refine wpAny_Call_append rfl (by refine AB d ?_;rfl) y d (Fe F.cx.eo.kd q ?_ hd D);refine(Bl a vs.toArray rfl ?_ (G A env s _ E F.cx fun v s₁ h c=>?_))
  ·refine Ap (l) fun m g=>?_;exact(E9 _ m g rfl rfl rfl)
  ·refine DU (Ho (F.step h)) fun a' b i o J I C u=>?_;replace o:=B▸o;obtain rfl:xs=b:=by refine AB (Internal.PV.list.inj ((Ai o))) ?_;rfl
   have j:=q.step h F.cx.gh;have t:=AZ.uniq J j;refine Ar (PySem.Value.ref.inj t) ?_;have hsz:i.toArray.size≤sizeLine:=by have:=C.length;refine AB List.size_toArray ?_;exact AJ (Nat.le_of_eq this) (AJ N (by decide))
   exact wpAny_list_append_plain (hsz:=hsz) I fun h' hl H=>k _ (u h' s₁.toks (i++[v]) (xs++[f]) (by simpa using hl) H (C.append ⟨c,trivial⟩) (Nat.le_refl _))) F.cx.eo.quiet
theorem EA {x:Str} {z N:Pos} (C:pe x=some (.list xs)) (H:FD w names n pe e fs) (T:xs.length+fs.length≤1000) (P:autoParam (BK e=true) Dy) (d:autoParam ((z.endLine==pos.line)=true) Dy)
  (hd:autoParam ((x==("__debug__" : Str))=false) B8) (G:autoParam ((x==("__classdict__" : Str))=false) B8) :
  N1 w names oc n (some x) pe (.Expr (.Call (.Attribute (.Name x np) "extend" z) [e] [] pos) N) (some x) (pe.set x (.list (xs++fs))):=
 fun A env s₀ s Q E F k=>wpAny_Expr_any (by
  refine DU (Ho F) fun a f vs p q l r S=>?_;replace p:=C▸p;obtain rfl:xs=f:=by cases p;rfl
  have i:backTo pos (starEach [e] env)=[(false,eval e env)]:=by refine AB (BV P) ?_;rfl
  refine wpAny_Call_method_late rfl (by refine AB i ?_;rfl) d i (Fe F.cx.eo.kd q ?_ hd G);refine Ap (l) fun m g=>?_;refine(Cz ("list") ("list.extend") PySem.F.plainAttrs_list PySem.F.slot_list_extend PySem.F.type_list_extend ⟨_,g,rfl⟩ (fun b J=>by cases J;exact⟨_,g,rfl⟩) ?_)
  refine Calls.callWith_builtin rfl (Calls.evalArgs_plain (Calls.spliced_cons (H A env s _ E F.cx fun b y s₁ c R M B=>Calls.spliced_nil ?_)));refine DU (Ho (F.step c)) fun a' f h j K I D t=>?_;replace j:=C▸j;obtain rfl:xs=f:=by cases j;rfl
  have o:=AZ.uniq K (q.step c F.cx.gh);cases o;refine Ap (I) fun v g1=>?_;refine Ap (M) fun O L=>?_;have hsz:h.toArray.size+y.toArray.size≤sizeLine:=by
   simp only [List.size_toArray];rw [D.length,B.length];exact AJ T (by decide)
  refine call_meets PySem.F.slot_list_extend (AQ _ g1 rfl) PySem.F.entry_list_extend (PySem.F.args_list_extend_2 _ _) (AutoSeq1.list_extend_list_list_0 a h.toArray v b y.toArray O (extend_door hsz) (AJ (Nat.le_add_right _ _) hsz)) (B2 g1 L ?_);have u:(s₁.heap.update a (Obj.mapSeq fun x=>x++y.toArray)).get? a=some { cls:=.type "list",data:=.seq (h++y).toArray (if(h.toArray++y.toArray).size==h.toArray.size then v else v+1) }:=by
   rw [Heap.get?_update_self _ g1 (by rw [mapSeq_app];rfl),mapSeq_app,(List.append_toArray h y:h.toArray++y.toArray=(h++y).toArray)]
  exact k _ (t _ s₁.toks (h++y) (xs++fs) ⟨_,u⟩ (Heap.SameBut.update ..) (D.append B) (Nat.le_refl _))) F.cx.eo.quiet
end
theorem L6 (names:List (Str×NameKind)):∀ (k:List (Str×Addr)),(∀ y,(y,NameKind.free)∈names→∃ c,env.cells.lookup y=some c)→
  ∃ g,(forIn names k (fun(x:Str×NameKind) (cs:List (Str×Addr))=>(do
   let(name,kind):=x
   if kind == .free then do
    let c ←cellOf env name
    pure (ForInStep.yield ((name,c)::cs))
   else pure (ForInStep.yield cs):Sem (ForInStep (List (Str×Addr))))))=pure g∧∀ p,p∈g↔p∈k∨env.cells.lookup p.1=some p.2∧(p.1,NameKind.free)∈names:=by
 induction names with
 |nil=>exact fun k z=>(AQ k rfl (fun p=>⟨.inl,fun h=>h.resolve_right fun h=>absurd h.2 List.not_mem_nil⟩))
 |cons q r l=>
  obtain⟨nm,m⟩:=q;intro k h
  by_cases f:m = .free
  ·subst f;refine Ap (h nm (.head _)) fun c d=>?_;refine AF (l ((nm,c)::k) fun y b=>h y (.tail _ b)) fun g i j=>?_;refine(AQ g ?_ (fun p=>(j p).trans ⟨fun q=>q.elim (fun q=>(List.mem_cons.mp q).elim (fun e=>.inr (e▸⟨d,.head _⟩)) .inl) fun q=>.inr ⟨q.1,.tail _ q.2⟩,fun q=>q.elim (fun q=>.inl (.tail _ q)) fun q=>(List.mem_cons.mp q.2).elim (fun e=>.inl ?_) fun a=>.inr ⟨q.1,a⟩⟩))
   ·refine Eq.trans (List.forIn_cons ..) ?_;unfold cellOf;simp only [d];exact i
   ·have e:=congrArg Prod.fst e;exact List.mem_cons.mpr (.inl (Prod.ext e (Ai (q.1.symm.trans ((congrArg (List.lookup · env.cells) e).trans d)))))
  ·refine AF (l k fun y b=>h y (.tail _ b)) fun g i j=>?_;refine(AQ g ?_ (fun p=>(j p).trans (or_congr Iff.rfl (and_congr Iff.rfl ⟨.tail _,fun q=>(List.mem_cons.mp q).resolve_left fun e=>f (congrArg Prod.snd e).symm⟩))))
   refine Eq.trans (List.forIn_cons ..) ?_;have:(m==NameKind.free)=false:=beq_false_of_ne f;simp only [this,Bool.false_eq_true,if_false];exact i
theorem Nz {e:Str→Option Addr} {y:Str} {c:Addr} {k:List (Str×Addr)} : (∀ p∈k,e p.1=some p.2)→(y,c)∈k→k.lookup y=e y:=by
 induction k with
 |nil=>exact fun z m=>absurd m List.not_mem_nil
 |cons p l x=>exact fun h m=>if q:y=p.1 then by refine AB q ?_;exact XI.trans (h p D1).symm else(Wg q).trans (x (fun p g=>h p (.tail _ g)) ((List.mem_cons.mp m).resolve_left fun e=>q (congrArg Prod.fst e)))
theorem DA {scope:Scope} (h:∀ y,(y,NameKind.free)∈scope.names→∃ c,env.cells.lookup y=some c) :
  ∃ x,closureFor scope env=pure x∧(∀ p∈x,env.cells.lookup p.1=some p.2∧(p.1,NameKind.free)∈scope.names)∧(∀ y,(y,NameKind.free)∈scope.names→x.lookup y=env.cells.lookup y):=
 let⟨x,h1,h2⟩:=L6 scope.names [] h;have k:∀ p∈x,env.cells.lookup p.1=some p.2∧(p.1,NameKind.free)∈scope.names:=fun p g=>((h2 p).mp g).resolve_left List.not_mem_nil
 (Aj x (congrArg (fun m:Sem (List (Str×Addr))=>(m>>=fun cs=>pure cs)) h1) k (fun y a=>Ap (h y a) fun c b=>Nz (e:=fun y=>env.cells.lookup y) (fun p g=>(k p g).1) ((h2 (y,c)).mpr (.inr ⟨b,a⟩))))
noncomputable def Hu (outer sn:List (Str×NameKind)):List (Str×NameKind):=sn.map fun(n,k)=>if(k == .free&&outer.lookup n==some .cell)then(n,.cell)else(n,k)
noncomputable def Au (outer:BC) (sn:List (Str×NameKind)):BC:=⟨Hu outer.nm sn,outer.cd,outer.ql⟩
theorem Kl {scope:Scope} (k:D7 names env):(relabel scope env).names=(Au names scope.names).nm:=by
 show scope.names.map _=scope.names.map _
 congr 1
 funext ⟨n,kd⟩
 have e:(env.scope.kind==ScopeKind.function)=true:=by refine AB k.kd ?_;rfl
 have h:env.kindOf n=names.lookup n:=by show env.scope.names.lookup n=_;exact congrArg _ k.nm
 simp only [e,h,Bool.and_true]
noncomputable def A3 (names:BC) (sn:List (Str×NameKind)) (pe:PE):PE:=fun y=>
 match sn.lookup y,names.lookup y with
 |some .free,some .cell=>pe y
 |some .free,some .free=>pe y
 |_,_=>none
noncomputable def Ci (names:BC) (sn:List (Str×NameKind)) (pe:PE):Bool:=sn.all fun p=>p.2 != .free||(names.lookup p.1==some .cell||names.lookup p.1==some .free)&&(pe p.1).isSome
theorem F6 (C:Cx w names n A env s pe) {y:Str} (k:names.lookup y=some .cell∨names.lookup y=some .free) (h:pe y=some pv) :
  ∃ c v,env.cells.lookup y=some c∧s.heap.IsCell c (some v)∧BA s.heap pv v:=by
 refine AF (C.vars y pv h) fun v a r=>?_;have e:env.kindOf y=names.lookup y:=by show env.scope.names.lookup y=_;rw [C.eo.nm]
 unfold AZ at a;rw [e]at a;rcases k with k | k<;>(rw [k]at a;refine AF (a) fun c i j=>?_;exact(Bl c v i j r))
theorem C5 {k:List (Str×NameKind)} (C:Cx w names n A env s pe) (h:Ci names k pe=true) {y:Str} (g:(y,NameKind.free)∈k) :
  ∃ c v,env.cells.lookup y=some c∧s.heap.IsCell c (some v):=by
 have e:=List.all_eq_true.mp h _ g;simp only [bne_self_eq_false,Bool.false_or,Bool.and_eq_true,Bool.or_eq_true,beq_iff_eq]at e;refine Bt (e) fun b x=>?_;refine Ap (Option.isSome_iff_exists.mp x) fun pv a=>?_;refine AW (F6 C b a) fun c v i j z=>?_;exact(Dj c v i j)
theorem Km {names:List (Str×NameKind)} {y:Str} {x:List (Str×NameKind)} : x.lookup y=some .free→(Hu names x).lookup y=some (if names.lookup y==some .cell then .cell else .free):=by
 induction x with
 |nil=>exact fun h=>nomatch h
 |cons p r a=>
  intro h
  induction p with
  |mk n k=>
   have g:Hu names ((n,k)::r)=(n,if(k == .free&&names.lookup n==some .cell)then .cell else k)::Hu names r:=congrArg (·::Hu names r) (apply_ite (Prod.mk n) _ _ _).symm;refine AB g ?_
   by_cases e:y=n
   ·refine Ar e ?_;replace h:=e▸h;refine XI.trans ?_;have h:=Ai (XI.symm.trans h);clear g;subst h;rfl
   ·exact(Wg e).trans (a ((Wg e).symm.trans h))
theorem L7 {k:List (Str×NameKind)} {y:Str} (h:k.lookup y=some .free):(Au names k).lookup y=some (if names.lookup y==some .cell then .cell else .free):=Km h
section
variable {w:Wd} {names:BC} {sn:List (Str×NameKind)} {n:Nat} {A:Around} {env:Env} {s CN:Shared} {pe:PE}
theorem Kn {K:Around} {B:List (Str×Addr)} {Q:Env→Shared→Prop} (C:Cx w names n A env s pe) (x:Step w s CN) (H:namesOk sc.names=true) (G:sc.kind = .function)
  (F:∀ p∈B,env.cells.lookup p.1=some p.2∧(p.1,NameKind.free)∈sc.names) (u:∀ y,(y,NameKind.free)∈sc.names→B.lookup y=env.cells.lookup y) (t:Ci names sc.names pe=true)
  (k:∀ cenv e,cenv.frame=env.frame→s.heap.get? cenv.locals=none→(∀ b o,CN.heap.get? b=some o→e.heap.get? b=some o)→
   Fm w (Au names sc.names) (Ct sc.names) n A { cenv with scope:=relabel sc env } s none e (A3 names sc.names pe)→
   (∀ y pv,A3 names sc.names pe y=some pv→∃ v,AZ e.heap { cenv with scope:=relabel sc env } y v∧BA s.heap pv v)→Q cenv e) :
  wpAny M K (newFunctionEnv sc env.globals B [] env.qual none .none (some env)) Q E CN:=by
 refine cN C.gh x (fun p P=>?_) H fun L d z X=>?_
 ·refine Bt (F p P) fun O N=>?_;refine CD (C5 C t N) fun c v i j=>?_;exact Ai (i.symm.trans O)▸⟨_,j⟩
 have f:∀ y pv,A3 names sc.names pe y=some pv→∃ v,AZ z { envOf sc env.globals env.qual none .none builtinsNs L d (some env)with scope:=relabel sc env } y v∧BA s.heap pv v:=fun y pv m=>by
  have l:sc.names.lookup y=some .free∧(names.lookup y=some .cell∨names.lookup y=some .free)∧pe y=some pv:=by
   unfold A3 at m;split at m
   ·exact(B2 (‹_›) (.inl ‹_›) m)
   ·exact(B2 (‹_›) (.inr ‹_›) m)
   ·exact nomatch m
  refine CK (l) fun D q J=>?_;refine AW (F6 C q J) fun c v i j r=>?_;refine(AQ v ?_ r)
  have I:d.lookup y=some c:=(X.off y D).trans ((u y (mem_of_lookup D)).trans i);have g:=((fun y=>congrArg (List.lookup y) (Kl C.eo)) y).trans (L7 D);refine Or.elim q (fun q=>?_) (fun q=>?_)
  ·replace g:=q▸g;exact Je (.inl g) I (X.st.cell C.gh j)
  ·replace g:=q▸g;exact Je (.inr g) I (X.st.cell C.gh j)
 refine AM (k _ _ rfl X.lf X.kp ⟨⟨⟨Kl C.eo,C.eo.cd,C.eo.ql,G,C.eo.gl,C.eo.bi⟩,X.st.gh C.gh,C.ok.step X.st,fun y pv m=>?_⟩,C.gh,X.st,⟨_,X.ns⟩,X.lf,X.lb,X.HL,fun Z h=>nomatch h⟩ f);refine AF (f y pv m) fun v a r=>?_;exact(AQ v a (r.step X.st C.gh))
end
noncomputable def Mn (fp:List Addr) (s s':Shared):Prop:=∀ b o,b∉fp→¬Af o→(∀ v,o.data≠.cell v)→s.heap.get? b=some o→s'.heap.get? b=some o
abbrev Row:=List (Str×PV)
noncomputable def SO (cn:BC) (e:Expr):Prop:=(PySem.nameOf? e).elim False fun x=>cn.lookup x=some .local
noncomputable abbrev HV (env:Env) (DP:PE) (s₀ s:Shared):Prop:=∀ y pv,DP y=some pv→∃ v,AZ s.heap env y v∧BA s₀.heap pv v
theorem HV.mv {x:PE} (h:HV env x s₀ s) (k:∀ y u,x y≠none→AZ s.heap env y u→AZ s'.heap env y u):HV env x s₀ s':=fun y pv g=>AF (h y pv g) fun v a q=>(AQ v (k y v (fun e=>nomatch g.symm.trans e) a) q)
noncomputable abbrev IQ (fp:List Addr) (K:Heap→Prop):Prop:=∀ h h',K h→(∀ b∈fp,∀ o,¬Co o→¬Af o→(∀ v,o.data≠.cell v)→h.get? b=some o→h'.get? b=some o)→K h'
noncomputable def Turn (w:Wd) (cn:BC) (oc:List Str) (n:Nat) (A:Around) (env:Env) (s₀:Shared) (it:Value) (target:Expr) (DP:PE) (rows:List Row) (fp:List Addr) (St:Nat→Heap→Prop):Prop:=
 ∀ (i:Nat) (s:Shared) (Qn Qs:Shared→Prop) (E:Value→Shared→Prop),Fm w cn oc n A env s₀ none s DP→HV env DP s₀ s→St i s.heap→i≤rows.length→
  (rows[i]? = none→∀ s',Fm w cn oc n A env s₀ none s' DP→Mn fp s s'→(∀ y u,AZ s.heap env y u→AZ s'.heap env y u)→Qn s')→
  (∀ r,rows[i]? = some r→∀ s',Fm w cn oc n A env s₀ none s' (DP.sets r)→St (i+1) s'.heap→Mn fp s s'→(∀ y u,DP y≠none→AZ s.heap env y u→AZ s'.heap env y u)→(SO cn target→0<s'.toks)→Qs s')→
  wpAny (MD w) A (pyNext it) (fun r s₁=>match r with
   |none=>Qn s₁
   |some v=>wpAny (MD w) A (letOwnedTupleGo target it v) (fun z CN=>wpAny (MD w) A (assign target env v) (fun z L8=>Qs L8) E CN) E s₁) E s
noncomputable def XJ (w:Wd) (cn:BC) (oc:List Str) (n:Nat) (A:Around) (s:Shared) (target:Expr) (DP:PE) (rows:List Row) (it:Value) (CN:Shared):Prop:=
 ∃ (fp:List Addr) (St:Nat→Heap→Prop),Step w s CN∧(∀ b∈fp,∃ o,CN.heap.get? b=some o)∧St 0 CN.heap∧
  (∀ i,IQ fp (St i))∧
  (∀ i (s':Shared) (Q:Value→Shared→Prop) (E:Value→Shared→Prop),St i s'.heap→Q it s'→wpAny (MD w) A (pyIter it) Q E s')∧∀ env,Turn w cn oc n A env s it target DP rows fp St
noncomputable def N0 (w:Wd) (names:BC) (n:Nat) (pe:PE) (iter:Expr) (cn:BC) (oc:List Str) (target:Expr) (DP:PE) (rows:List Row):Prop:=
 ∀ (A:Around) (env:Env) (s:Shared) (Q:Value→Shared→Prop) (E:Value→Shared→Prop),Cx w names n A env s pe→
  (∀ it CN,XJ w cn oc n A s target DP rows it CN→Q it CN)→wpAny (MD w) A (eval iter env) (fun x s₁=>wpAny (MD w) A (pyIter x) Q E s₁) E s
noncomputable def Wh (w:Wd) (names:BC) (n:Nat) (pe:PE) (e:Expr) (pv:PV) (J:List Value→Nat→Prop) (T:Prop):Prop:=
 ∀ (A:Around) (env:Env) (s:Shared) (Q:Value→Shared→Prop) (E:Value→Shared→Prop),Cx w names n A env s pe→(T→0<s.toks)→
  (∀ v s',Step w s s'→BA s'.heap pv v→(∀ vs,J vs s.toks→J (vs++[v]) s'.toks)→Q v s')→wpAny (MD w) A (eval e env) Q E s
theorem Ev.j {T:Prop} (h:Ev w names n pe e pv):Wh w names n pe e pv (fun z z=>True) T:=fun A env s Q E C z k=>h A env s Q E C fun v s' x r=>k v s' x r fun z z=>trivial
noncomputable def Ko (w:Wd) (names:BC) (n:Nat) (ifs:List Expr) (pe:PE) (b:Bool):Prop:=
 match ifs with
 |[]=>b=true
 |[c]=>Tr w names n pe c b
 |_=>False
theorem PE.Pj (r:Row):∀ (pe:PE) (x:Str),(∀ p∈r,p.1≠x)→(pe.sets r) x=pe x:=by
 induction r with
 |nil=>exact fun z z z=>rfl
 |cons p r e=>exact fun pe x h=>(e _ x fun q k=>h q (.tail _ k)).trans (if_neg (Ne.symm (h p D1)))
section
variable {w:Wd} {names:BC} {n:Nat} {A:Around} {env:Env} {s:Shared} {pe:PE}
noncomputable abbrev dj (a:Addr):Obj:={ cls:=.type "list_iterator",data:=.fields #[.ref a,.int 0 0] }
theorem Pk {h:Array Value} (hl:s.heap.IsList a h) (k:∀ I s',Step w s s'→s.heap.get? I=none→s'.heap.get? I=some (dj a)→(∀ {b o},s.heap.get? b=some o→s'.heap.get? b=some o∧b≠I)→Q (.ref I) s'):wpAny (MD w) A (pyIter (.ref a)) Q E s:=
 wpAny_pyIter_list hl (k _ _ (Step.push s _) (fresh_at _) (BD _ rfl) fun e=>⟨Br _ e,Nat.ne_of_lt (Heap.lt_size e)⟩)
structure CI (w:Wd) (cn:BC) (oc:List Str) (n:Nat) (A:Around) (env:Env) (s₀:Shared) (DP:PE) (D:Addr) (J:List Value→Nat→Prop) (St:Heap→Prop) (pe':PE) (fs:List FV) (vs:List Value) (s:Shared):Prop where
 F:Fm w cn oc n A env s₀ none s pe'
 hv:HV env DP s₀ s
 st:St s.heap
 D:s.heap.PlainList D vs.toArray
 f:Al fs vs
 j:J vs s.toks
section
variable {cn:BC} {oc:List Str} {s₀ s₁ s':Shared} {DP pe':PE} {D:Addr} {J:List Value→Nat→Prop} {St:Heap→Prop} {fs:List FV} {vs:List Value} {fp:List Addr} {r:Row}
theorem N2 {g:Row→List FV} (h:rows[i]? = some r):(rows.take (i+1)).flatMap g=(rows.take i).flatMap g++g r:=by
 refine AB List.take_add_one ?_;refine AB h ?_;refine Eq.trans List.flatMap_append ?_;exact congrArg _ (List.append_nil _)
theorem SP {g:Row→List FV} : ((rows.take i).flatMap g).length≤(rows.flatMap g).length:=by
 conv=>rhs;rw [←List.take_append_drop i rows,List.flatMap_append,List.length_append]
 exact Nat.le_add_right _ _
theorem CI.back (I:CI w cn oc n A env s₀ DP D J St (DP.sets r) fs vs s) (x:Step w s s') (c:∀ q∈r,DP q.1=none) (h:∀ vs t k,t≤k→J vs t→J vs k) (g:IQ fp St):CI w cn oc n A env s₀ DP D J St DP fs vs s':=
 ⟨(I.F.step x).less fun y pv e=>by refine Eq.trans (PE.Pj r DP y fun q m l=>nomatch (l▸c q m:DP y=none).symm.trans e) ?_;exact e,I.hv.mv fun z z z a=>a.step x I.F.cx.gh,
  g _ _ I.st fun b z o i d z e=>x.get I.F.cx.gh e i d,x.Um I.F.cx.gh I.D,I.f,h _ _ _ x.tk I.j⟩
theorem Pm {Q:Bool→Shared→Prop} (C:Cx w cn n A env s pe') (h:Ko w cn n ifs pe' b) (k:∀ s',Step w s s'→Q b s') :
  wpAny (MD w) A (forIn ifs true fun c r=>if r=true then do let e ←isTrue c env (eval c env);pure (ForInStep.yield e)else pure (ForInStep.yield r)) Q E s:=
 match ifs,h with
 |[],h=>wpAny_tests_nil (h▸k s (Step.refl w s))
 |[c],h=>wpAny_tests_one (h A env s _ _ C k)
noncomputable def Up (elt:Expr) (ifs:List Expr) (acc:Value) (env:Env) (c:Code):Sem PySem.Fin:=do
 let mut ok:=true
 for c in ifs do
  if ok then ok ←isTrue c env (eval c env)
 if ok then
  (do let _ ←call (.builtin "list.append") [acc,←eval elt env])
 again c
theorem Mo {c:Code} {T:Prop} {Q:PySem.Fin→Shared→Prop} (I:CI w cn oc n A env s₀ DP D J St (DP.sets r) fs vs s) (H:∀ q∈r,DP q.1=none) (d:∀ vs t K,t≤K→J vs t→J vs K) (C:IQ fp St) (O:D∉fp) (B:s₀.heap.get? D=none) (g:Ko w cn n ifs (DP.sets r) b)
  (i:b=true→Wh w cn n (DP.sets r) elt (.fv f) J T) (L:T→0<s.toks) (N:fs.length≤1000) (k:∀ P s',CI w cn oc n A env s₀ DP D J St DP (fs++if b then [f]else []) P s'→wpAny (MD w) A (again c) Q E s'):wpAny (MD w) A (Up elt ifs (.ref D) env c) Q E s:=by
 refine AD (Pm I.F.cx g fun a x=>?_);clear g;induction b with
 |false=>exact k vs a ((List.append_nil fs).symm▸I.back x H d C)
 |true=>
  refine AD (AD (i rfl A env a _ _ (I.F.cx.step x) (fun q=>Nat.lt_of_lt_of_le (L q) x.tk) fun y m u p z=>?_));have h:=I.back (x.trans u) H d C;refine AD (wpAny_list_append_plain (hsz:=D3 (AJ (Nat.le_of_eq I.f.length) N)) h.D fun h' hl G=>AM (k (vs++[y]) _ ?_));refine Bt (h.F.lst (t:=m.toks) h.hv h.D B G) fun l R=>?_;exact⟨l,h.hv.mv fun y v Z=>R y v,C _ _ h.st fun b M o Z Z Z e=>(G.2 b (fun q=>O (q▸M))).trans e,List.push_toArray vs y▸hl,I.f.append (show Al [f] [y]from⟨p,trivial⟩),z vs (d _ _ _ x.tk I.j)⟩
end
theorem Hv {o:BC} {oc:List Str} {a:PE} {J:List Value→Nat→Prop} {R:Result→Shared→Prop} {d:Value} {fp:List Addr} {G:Nat→Heap→Prop} {u:Sem PySem.Fin} {p0:Pos} {g:Row→List FV} {us₀:List Value} {fs₀:List FV} {K:Heap→Prop} (hK:∀ i (s s':Shared),G i s.heap→Mn fp s s'→K s'.heap)
  (B:compTurn (.ListComp elt gens sc pos) c d (.ref D) env=standAt p0>>=fun _=>pyNext d>>=fun r=>match r with
   |none=>pure (.done .next)
   |some v=>letOwnedTupleGo target d v>>=fun _=>assign target env v>>=fun _=>u)
  (T:Turn w o oc n A env s₀ d target a rows fp G) (W:CI w o oc n A env s₀ a D J (G 0) a fs₀ us₀ s₁) (dm:D∉fp) (P:∀ vs t t',t≤t'→J vs t→J vs t')
  (H:∀ i r fs vs s (Q:PySem.Fin→Shared→Prop) (E:Value→Shared→Prop),rows[i]? = some r→fs.length≤fs₀.length+(rows.flatMap g).length→CI w o oc n A env s₀ a D J (G (i+1)) (a.sets r) fs vs s→(SO o target→0<s.toks)→
   (∀ us s',CI w o oc n A env s₀ a D J (G (i+1)) a (fs++g r) us s'→wpAny (MD w) A (again (.compLoop (.ListComp elt gens sc pos) c d (.ref D) env)) Q E s')→wpAny (MD w) A u Q E s)
  (k:∀ vs s',CI w o oc n A env s₀ a D J K a (fs₀++rows.flatMap g) vs s'→R (.ok .next) s') :
  codeAny (MD w) A (.compLoop (.ListComp elt gens sc pos) c d (.ref D) env) R s₁:=by
 refine codeAny_loop rfl (fun m s'=>∃ i vs,(m=rows.length+1-i∧i≤rows.length)∧CI w o oc n A env s₀ a D J (G i) a (fs₀++(rows.take i).flatMap g) vs s') (fun m s' hI=>?_) (rows.length+1)
  (Dj 0 us₀ ⟨rfl,Nat.zero_le _⟩ ((List.append_nil fs₀).symm▸W))
 refine CD (hI) fun i vs O I=>?_;obtain⟨rfl,hi⟩:=O;show wpAny _ A ((compTurn (.ListComp elt gens sc pos) c d (.ref D) env).onRaise (fun x=>do noteFrame x env;theTreesLotGoes x)) _ _ s';refine wpAny_noted ?_;refine AB B ?_;have hD:∀ {b:Shared},Mn fp s' b→b.heap.PlainList D vs.toArray:=fun N=>Ap (I.D) fun m e=>⟨m,N D _ dm (AG rfl) (fun v q=>Data.noConfusion q) e⟩
 refine AD (wpAny_standAt (AD (Ak (wpAny_mono (T i s' (fun s=>s'.toks≤s.toks→R (.ok .next) s)
  (fun s=>s'.toks≤s.toks→∃ r,rows[i]? = some r∧(SO o target→0<s.toks)∧CI w o oc n A env s₀ a D J (G (i+1)) (a.sets r) (fs₀++(rows.take i).flatMap g) vs s) _ I.F I.hv I.st hi
  (fun hn b l N vk M=>k vs b ⟨l,I.hv.mv fun y v _=>vk y v,hK i _ _ I.st N,hD N,?_,P _ _ _ M I.j⟩) (fun r Y b l z N vk tp M=>⟨r,Y,tp,l,I.hv.mv vk,z,hD N,I.f,P _ _ _ M I.j⟩)) (fun r b p M=>?_) fun _ _ h _=>h))))
 ·have h:=I.f;rwa [List.take_of_length_le (List.getElem?_eq_none_iff.mp hn)]at h
 ·induction r with
  |none=>exact AM (p M)
  |some v=>
   refine AD (Ak (wpAny_mono p (fun _ L8 X C=>AD (Ak (wpAny_mono X (fun _ a0 V L=>?_) fun _ _ h _=>h))) fun _ _ h _=>h));refine AY (V (AJ M (AJ C L))) fun r Y tp Z=>?_;have S:i<rows.length:=(List.getElem?_eq_some_iff.mp Y).1;exact H i r _ vs a0 _ _ Y (by refine AB List.length_append ?_;exact Nat.add_le_add_left SP _) Z tp fun us Z2 U=>AM (PO rfl (rows.length+1-(i+1)) (Nat.sub_lt_sub_left (Nat.lt_succ_of_lt S) (Nat.lt_succ_self i)) (i+1) us ⟨rfl,S⟩ (by refine AB (N2 Y) ?_;refine Ar (List.append_assoc ..) ?_;exact U))
theorem Mp {p:Row→Bool} {g:Row→FV} : rows.flatMap (fun r=>if p r then [g r]else [])=(rows.filter p).map g:=by
 induction rows with
 |nil=>rfl
 |cons r l h=>refine Eq.trans List.flatMap_cons ?_;refine AB h ?_;refine AB List.filter_cons ?_;cases p r<;>rfl
theorem Gb {use:Option (Value→Sem Unit)} {p:Row→Bool} {g:Row→FV} {bp:Pos}
  (C:Cx w names n A env s pe) (S:N0 w names n pe iter (Au names sc.names) (Ct sc.names) target (A3 names sc.names pe) rows)
  (a6:namesOk sc.names=true) (Y:sc.kind = .function) (L:∀ x∈sc.names,x.2 = .local→sc.names.lookup x.1=some .local) (l:Ci names sc.names pe=true)
  (W:∀ r∈rows,∀ q∈r,A3 names sc.names pe q.1=none) (U:∀ r∈rows,Ko w (Au names sc.names) n ifs ((A3 names sc.names pe).sets r) (p r))
  (J:List Value→Nat→Prop) (a0:∀ t,J [] t) (O:∀ vs t t',t≤t'→J vs t→J vs t') (M:∀ r∈rows,p r=true→Wh w (Au names sc.names) n ((A3 names sc.names pe).sets r) elt (.fv (g r)) J (SO (Au names sc.names) target)) (hz:rows.length≤1000)
  (hs:∀ x,foldedSetIterable iter env x=pure x)
  (k:∀ D Z vs s' m,Step w s s'→s.heap.get? D=none→s'.heap.PlainList D vs.toArray→Al ((rows.filter p).map g) vs→J vs s'.toks→s'.heap.Ns Z m→s.heap.get? Z=none→compPost (MD w) A E use Q (.ref D) Z (.ok .next) s') :
  wpAny (MD w) A (comprehension (.ListComp elt [⟨target,iter,ifs,0⟩] sc pos) sc env bp (newList []) false (eval iter env) use) Q E s:=by
 obtain⟨cl,z,a5,P⟩:=DA (scope:=sc) (env:=env) fun y hy=>let⟨c,_,i,_⟩:=C5 C l hy;⟨c,i⟩;refine wpAny_comprehension_free (g:=⟨target,iter,ifs,0⟩) (gs:=[]) rfl hs z Y L (S A env s _ E C fun it h a2=>?_);obtain⟨fp,St,u,a4,a1,X,H,T⟩:=a2;refine wpAny_newObj_type ?_;have xD:Step w h { h with heap:=h.heap.push { cls:=.type "list",dict:=none,data:=.seq ([]:List Value).toArray } }:=Step.push h _;have V:s.heap.get? h.heap.objs.size=none:=u.gone C.gh (fresh_at _);have R:h.heap.objs.size∉fp:=fun G=>by obtain⟨o,e⟩:=a4 _ G;replace e:=(fresh_at ..).symm.trans e;injection e
 refine Kn C (u.trans xD) a6 Y a5 P l fun cenv d a7 hC kp N B=>?_;have a:St 0 d.heap:=X _ _ _ a1 fun b _ o _ _ _ e=>(fun b o e=>kp b o (Br _ e)) b o e;have v:codeAny (MD w) A (.compLoop (.ListComp elt [⟨target,iter,ifs,0⟩] sc pos) 0 it (.ref h.heap.objs.size) { cenv with scope:=relabel sc env }) (compPost (MD w) A E use Q (.ref h.heap.objs.size) cenv.locals) d:=
  Hv (g:=fun r=>if p r then [g r]else []) (us₀:=[]) (fs₀:=[]) (K:=fun _=>True) (fun _ _ _ _ _=>trivial) (compTurn_list _ _ _ _ _ _ _ _ _) (T _) ⟨N,B,a,⟨0,kp _ _ (BD _ rfl)⟩,trivial,a0 _⟩ R O
   (fun i r fs vs s Q E hr a3 I tp k=>have G:=List.mem_of_getElem? hr;Mo I (W r G) O (X (i+1)) R V (U r G) (M r G) tp (AJ a3 (by refine AB Mp ?_;refine AB (List.length_map ..) ?_;refine AB List.length_nil ?_;refine AB (Nat.zero_add ..) ?_;exact AJ (List.length_filter_le _ _) hz)) k) fun vs s' I=>by
   obtain⟨m,G⟩:=I.F.ns;exact k _ _ vs s' m I.F.st V I.D (Mp▸I.f) I.j G hC
 exact codeAny_compStart_list v (H 0 d _ _ a v)
theorem Kp {p:Row→Bool} {g:Row→FV}
  (b:N0 w names n pe iter (Au names sc.names) (Ct sc.names) target (A3 names sc.names pe) rows)
  (l:namesOk sc.names=true) (i:sc.kind = .function) (h:∀ x∈sc.names,x.2 = .local→sc.names.lookup x.1=some .local) (a:Ci names sc.names pe=true)
  (f:∀ r∈rows,∀ q∈r,A3 names sc.names pe q.1=none) (c:∀ r∈rows,Ko w (Au names sc.names) n ifs ((A3 names sc.names pe).sets r) (p r))
  (y:∀ r∈rows,p r=true→Ev w (Au names sc.names) n ((A3 names sc.names pe).sets r) elt (.fv (g r))) (K:rows.length≤1000)
  (H:autoParam (∀ env x,foldedSetIterable iter env x=pure x) Me) :
  FD w names n pe (.ListComp elt [⟨target,iter,ifs,0⟩] sc pos) ((rows.filter p).map g):=fun A env s Q E C k=>by
 refine AB (eval_ListComp ..) ?_;refine Gb C b l i h a f c (fun Z Z=>True) (fun Z=>trivial) (fun Z Z Z Z Z=>trivial) (fun r I L=>(y r I L).j) K (H env) fun D O vs s' m x N hl F Z z B=>?_;refine(AQ m z (fun M u=>?_))
 refine BR (z) fun o es P e d Z=>?_;refine k D vs _ (x.write (t:=s'.toks) C.gh u B e fun vs q=>by injection (d.symm.trans q)) N ?_ F;refine Ap (hl) fun G v=>?_;exact⟨G,(u.2 D (by rintro rfl;obtain rfl:=(B6 v e);injection d)).trans v⟩
end
noncomputable def HI (o:Obj):Prop:=Iw o∧¬Af o∧∀ v,o.data≠.cell v
theorem BX {o:Obj} (h:o.data = .fields vs) (k:∀ q t,vs[1]?≠some (.str q t)):HI o:=
 ⟨fun x q t e=>by refine Ar (PySem.Data.fields.inj ((h.symm.trans e))) ?_;exact k q t,AR h,fun v e=>by injection (h.symm.trans e)⟩
theorem Pn {o:Obj} {xs m} (h:o.data = .seq xs m):HI o:=⟨fun k q t e=>by(injection (h.symm.trans e)),AG h,fun v e=>by injection (h.symm.trans e)⟩
theorem Step.many {t:Nat} {wr:List Addr} (x:Step w s₀ s) (G:GH w s₀.heap) (k:∀ b o,b∉wr→s.heap.get? b=some o→h'.get? b=some o) (f:∀ b∈wr,s₀.heap.get? b=none)
  (I:∀ b∈wr,∀ o,s.heap.get? b=some o→HI o) (D:autoParam (s.toks≤t) Nt):Step w s₀ { s with heap:=h',toks:=t } where
 keep:=fun b y n d e=>k b y (fun m=>by injection ((f b m).symm.trans e)) (x.keep b y n d e)
 EZ:=fun b y e d=>Ap (x.EZ b y e d) fun F g=>⟨F,k b _ (fun m=>by injection ((f b m).symm.trans e)) g⟩
 grow:=fun P C i e=>Ap (x.grow P C i e) fun m g=>⟨m,k P _ (fun m=>by injection ((f P m).symm.trans e)) g⟩
 tabs:=fun h p q=>by
  refine AY (x.tabs h p q) fun i E t c=>?_;refine AF (h p q) fun H B Z=>?_;refine(Aj i (k _ _ (fun m=>by injection ((f _ m).symm.trans B)) E) t (fun pos z v=>?_))
  refine Ax (c pos z v) fun a oc vs tk u l j r=>?_;exact(Ba a oc vs tk u (k a _ (fun m=>(I a m _ l).1 vs _ _ j r) l) j r)
 os:=x.os
 gens:=x.gens
 tk:=AJ x.tk D
section
variable {w:Wd} {cn:BC} {oc:List Str} {n:Nat} {A:Around} {env:Env} {s₀ s s':Shared} {own:Option Str} {DP:PE}
theorem Fm.XK (F:Fm w cn oc n A env s₀ own s DP) (r:∀ y pv,DP y=some pv→∃ v,AZ s.heap env y v∧BA s₀.heap pv v) {t:Nat} {wr:List Addr} (k:∀ b o,b∉wr→s.heap.get? b=some o→h'.get? b=some o) (f:∀ b∈wr,s₀.heap.get? b=none)
  (p:∀ b∈wr,∀ o,s.heap.get? b=some o→HI o) (u:autoParam (s.toks≤t) Nt):Fm w cn oc n A env s₀ none { s with heap:=h',toks:=t } DP∧∀ y v,AZ s.heap env y v→AZ h' env y v:=by
 have x:=F.st.many (t:=t) F.g0 k f p;have hd:∀ b o,s.heap.get? b=some o→Af o→h'.get? b=some o:=fun b o e d=>k b o (fun m=>(p b m o e).2.1 d) e;have q:∀ {c v},s.heap.IsCell c v→h'.IsCell c v:=fun {c v} g=>AF (g) fun o e d=>(AQ o (k c o (fun m=>(p c m o e).2.2 v d) e) d)
 have a:∀ y v,AZ s.heap env y v→AZ h' env y v:=fun y v k=>k.keep hd q;exact⟨⟨⟨F.cx.eo,x.gh F.g0,F.cx.ok.next' hd u,fun y py l=>AF (r y py l) fun v i j=>⟨v,a y v i,j.step x F.g0⟩⟩,F.g0,x,Ap (F.ns) fun m z=>⟨m,HK z hd⟩,F.lf,F.lb,fun y l=>AW (F.HL y l) fun c v i j k=>⟨c,v,i,q j,k⟩,fun Z h=>by injection h⟩,a⟩
theorem Ff {fp wr:List Addr} {P:Nat→Value→Prop} {r:Nat→Heap→Prop} {x:Str} (W:Walks PR w.w A I fp wr xs.length P r) (V:∀ i v f,P i v→xs[i]? = some f→BZ f v)
  (l:∀ b∈wr,s₀.heap.get? b=none) (d:∀ i h,r i h→∀ b∈wr,∀ o,h.get? b=some o→HI o) (D:∀ i h,r i h→∀ b∈fp,∀ o,h.get? b=some o→¬Co o∧¬Af o∧∀ v,o.data≠.cell v)
  (U:cn.lookup x=some .local∨(x∈oc∧cn.lookup x=some .cell)) (B:DP x=none):Turn w cn oc n A env s₀ (.ref I) (.Name x px) DP (xs.map fun f=>[(x,.fv f)]) fp r:=by
 intro i s Qn Qs E F N g z kn ks;replace z:=(List.length_map ..)▸z;have q:∀ b,b∉fp→b∉wr:=fun b h m=>h (W.sub b m)
 by_cases k:i<xs.length
 ·obtain⟨f,O⟩:∃ f,xs[i]? = some f:=⟨xs[i],by exact List.getElem?_eq_getElem k⟩
  refine Ak (W.item i s _ _ k g fun v h' tk H c p m=>?_);refine AM (wpAny_assign_Name ?_);refine Bt (F.XK (t:=tk) N p l (d i _ g)) fun K M=>?_;refine B4 K U (pv:=.fv f) (V i v f H O) none (fun _ h=>by injection h) fun L C Q J R=>?_;refine ks [(x,.fv f)] (by simp [O]) L C ?_ (fun b o j Y S e=>?_) (fun y u T a=>J y u (by rintro rfl;exact T B) (M y u a)) R
  ·exact W.frame _ _ _ c fun b j o e=>CK (D _ _ c b j o e) fun t1 Z X=>Q b o Z X e
  ·exact Q b o Y S (p b o (q b j) e)
 ·have G:i=xs.length:=Nat.le_antisymm z (Nat.not_lt.mp k);clear k ks z;subst G;refine Ak (W.done s _ _ g fun h' tk p m=>?_);refine Bt (F.XK (t:=tk) N p l (d _ _ g)) fun K M=>?_;exact kn (by simp) _ K (fun b o j _ _ e=>p b o (q b j) e) M
end
section
variable {w:Wd} {names:BC} {n:Nat} {pe:PE}
theorem src_list {N:BC} {oc:List Str} {x:Str} {I:PE} (hi:Ev w names n pe iter (.list xs)) (hx:N.lookup x=some .local∨(x∈oc∧N.lookup x=some .cell)) (O:I x=none) :
  N0 w names n pe iter N oc (.Name x px) I (xs.map fun f=>[(x,.fv f)]):=fun A env s Q E C k=>by
 refine hi A env s _ E C fun v s₁ l r=>?_;refine AW (r) fun a L u hl U=>?_;obtain rfl:=u;refine wpAny_pyIter_list hl (k _ _ ?_);have D:a≠s₁.heap.objs.size:=by refine AF (hl) fun o e _=>?_;exact Nat.ne_of_lt (Heap.lt_size e)
 have W:=Walks.list (prog:=PR) (w:=w.w) (A:=A) C.ok.h s₁.heap.objs.size a D L.toArray;replace W:=(by exact U.length:L.toArray.size=xs.length)▸W;refine(Cz [s₁.heap.objs.size,a] (fun i h=>h.IsListIter s₁.heap.objs.size a i∧h.IsList a L.toArray) (l.trans (Step.push s₁ _)) (fun b y=>?_) ⟨⟨_,BD _ rfl,rfl,rfl⟩,hl.push _⟩ (fun i h h' p Y=>?_) (fun i s' Q E p q=>wpAny_pyIter_listiter p.1 q) (fun X=>?_))
 ·simp only [List.mem_cons,List.not_mem_nil,or_false]at y;refine Or.elim y (fun J=>?_) (fun K=>?_)
  ·obtain rfl:=J;exact⟨_,BD _ rfl⟩
  ·clear D;obtain rfl:=K;refine AF (hl) fun o e _=>?_;exact⟨o,Br _ e⟩
 ·refine Bt (p) fun z H=>?_;refine AY (z) fun o e c d=>?_;refine B0 (H) fun S M P V m=>?_;exact⟨(Aj o (Y _ (by exact D1) o (As (by refine AB c ?_;exact fun q=>nomatch q)) (AR d) (fun v q=>by injection (d.symm.trans q)) e) c d),
   (Cc S (Y _ (by simp) S (Ab m) (AG m) (fun v q=>by injection (m.symm.trans q)) M) P V m)⟩
 ·refine Ff W (fun i v f h T=>?_) (fun b y=>?_) (fun i h p b y o e=>?_) (fun i h p b y o e=>?_) hx O
  ·refine AF (U.get (show L[i]? = some v by simpa using h)) fun f2 Z r=>?_;obtain rfl:=(B6 T Z);exact r
  ·refine AB (List.mem_singleton.mp y) ?_;exact l.gone C.gh (fresh_at _)
  ·replace e:=(List.mem_singleton.mp y)▸e;refine Bt (p) fun B _=>?_;refine AY (B) fun o' R c d=>?_;obtain rfl:=(B6 e R)
   exact BX d fun q t=>by exact not_eq_of_beq_eq_false rfl
  ·refine Bt (p) fun j g=>?_;refine AY (j) fun o' R c d=>?_;refine B0 (g) fun S M P V m=>?_;simp only [List.mem_cons,List.not_mem_nil,or_false]at y;refine Or.elim y (fun F=>?_) (fun G=>?_)
   ·clear y;obtain rfl:=F;obtain rfl:=(B6 e R);exact(B2 (As (by refine AB c ?_;exact fun q=>nomatch q)) (AR d) (fun v q=>by injection (d.symm.trans q)))
   ·clear W p j hl D y g r d;obtain rfl:=G;clear P;obtain rfl:=(B6 e M);exact(B2 (Ab m) (AG m) (fun v q=>by injection (m.symm.trans q)))
theorem Mq {x:Str} {p:FV→Bool} {g:FV→FV} (C:Ev w names n pe iter (.list xs))
  (u:(Au names sc.names).lookup x=some .local∨(x∈Ct sc.names∧(Au names sc.names).lookup x=some .cell)) (d:A3 names sc.names pe x=none)
  (o:namesOk sc.names=true) (m:sc.kind = .function) (a:∀ x∈sc.names,x.2 = .local→sc.names.lookup x.1=some .local) (c:Ci names sc.names pe=true)
  (i:∀ f∈xs,Ko w (Au names sc.names) n ifs ((A3 names sc.names pe).set x (.fv f)) (p f))
  (b:∀ f∈xs,p f=true→Ev w (Au names sc.names) n ((A3 names sc.names pe).set x (.fv f)) elt (.fv (g f))) (z:xs.length≤1000)
  (t:autoParam (∀ env x,foldedSetIterable iter env x=pure x) Me) :
  FD w names n pe (.ListComp elt [⟨.Name x px,iter,ifs,0⟩] sc pos) ((xs.filter p).map g):=by
 have l:=Kp (w:=w) (names:=names) (n:=n) (pe:=pe) (elt:=elt) (target:=.Name x px) (iter:=iter) (ifs:=ifs) (sc:=sc) (pos:=pos) (rows:=xs.map fun f=>[(x,.fv f)])
  (p:=fun r=>match r with | [(_,.fv f)]=>p f | _=>false) (g:=fun r=>match r with | [(_,.fv f)]=>g f | _=>.none)
  (src_list C u d) o m a c (fun r y q v=>?_) (fun r y=>?_) (fun r y B=>?_) (by simpa using z) t
 ·rwa [List.filter_map,List.map_map,show(fun f=>(match ([(x,.fv f)]:Row)with | [(_,.fv f)]=>g f | _=>.none))=g from rfl,show((fun r:Row=>match r with | [(_,.fv f)]=>p f | _=>false)∘fun f=>[(x,.fv f)])=p from rfl]at l
 ·refine AF (List.mem_map.mp y) fun f s e=>?_;obtain rfl:=e;refine AB (List.mem_singleton.mp v) ?_;exact d
 ·refine AF (List.mem_map.mp y) fun f j k=>?_;obtain rfl:=k;exact i f j
 ·refine AF (List.mem_map.mp y) fun f j h=>?_;clear y;obtain rfl:=h;exact b f j B
end
set_option tactic.hygienic true in
theorem I4 {a b:Int} {c k:Value} (l:List Value) (h:TriplesOk l) (e:codeAmong pos (l++[rawInt a,rawInt b,c])=some k):codeAmong pos l=some k∨k=c:=by
 fun_induction TriplesOk l with
 |case1=>
  dsimp only [List.nil_append,rawInt,codeAmong]at e;split at e
  ·exact .inr (Ai e).symm
  ·injection e
 |case2 a' t b' u x y g=>
  dsimp only [List.cons_append,codeAmong]at e ⊢;split at e
  ·rename_i hc;refine AB (if_pos hc) ?_;exact .inl e
  ·rename_i hc;refine AB (if_neg hc) ?_;exact g h e
 |case3 l d f=>exact h.elim
theorem Ji {k:Array Value} {tk:Tok} (t:TriplesOk k.toList):k[1]?≠some (.str q tk):=fun h=>by
 rw [←Array.getElem?_toList]at h
 generalize k.toList=l at *
 fun_induction TriplesOk l with
 |case1=>injection h
 |case2=>injection (Ai h)
 |case3=>exact t.elim
theorem Kq {p k:Addr×Str} (h:p∈EI) (h':k∈EI) (e:p.1=k.1):p.2=k.2:=(by decide:∀ p∈EI,∀ k∈EI,p.1=k.1→p.2=k.2) p h k h' e
theorem Step.grown {P:Addr} {l:Array Value} {a b:Int} {t:Nat} (Q:P∈Cd) (B:∀ p∈EI,p.1=P→p.2=q) (e:s.heap.get? P=some (tabObj l)) (S:TriplesOk l.toList)
  (x:Heap.ExtBut P s.heap h') (i:h'.CodeRec (.ref D) q) (I:h'.get? P=some (tabObj (l++#[rawInt a,rawInt b,.ref D]))) (u:autoParam (s.toks≤t) Nt):Step w s { s with heap:=h',toks:=t }:=by
 refine⟨fun y o n Z e=>(fun y o n e=>x y o (by rintro rfl;exact n Q) e:∀ y o,y∉Cd→s.heap.get? y=some o→h'.get? y=some o) y o n e,fun y o E d=>⟨o.slots,x y o (by rintro rfl;obtain rfl:=(B6 e E);refine Bj (d) fun Z Z d=>?_;injection d) E⟩,fun J R C r=>?_,fun h p L=>?_,rfl,fun h=>h,u⟩
 ·by_cases k:J=P
  ·subst k;replace r:=e▸r;have:l=C:=by cases r;rfl
   subst this;exact⟨_,I⟩
  ·exact⟨#[],by exact x J _ k r⟩
 ·refine AY (h p L) fun j c z H=>?_;have code:∀ g,s.heap.CodeRec g p.2→h'.CodeRec g p.2:=fun g f=>Ax (f) fun F oc vs tk N K G M=>⟨F,oc,vs,tk,N,x F _ (by
   rintro rfl;obtain rfl:=(B6 e K)
   obtain rfl:=(PySem.Data.fields.inj G)
   exact Ji S M) K,G,M⟩
  by_cases k:p.1=P
  ·replace c:=k▸c;replace c:=e.symm.trans c;have:l=j:=by cases c;rfl
   subst this;refine(Aj _ (by refine AB k ?_;exact I) (by simpa using TriplesOk_snoc a b (.ref D) _ z) (fun pos g v=>?_))
   refine Or.elim (I4 _ z (by simpa using v)) (fun O=>?_) (fun m=>?_)
   ·exact code g (H pos g O)
   ·refine AB m ?_;refine AB (B p L k) ?_;exact i
  ·exact(Aj j (x _ _ k c) z (fun pos g v=>code g (H pos g v)))
theorem Po (G:GH w h) {x:Addr} {oc:Obj} {tk:Tok} (f:h.get? x=some oc) (g:oc.data = .fields vs) (d:vs[1]? = some (.str q tk)):x∉Cd:=fun e=>by
 rw [←Cn]at e;refine AF (List.mem_map.mp e) fun p a k=>?_;clear e;obtain rfl:=k;refine AY (G.tabs p a) fun b y c z=>?_;obtain rfl:=(B6 f y);obtain rfl:=(PySem.Data.fields.inj g)
 exact Ji c d
theorem N3 {k:Value} (b:s.heap.CodeRec k q) (x:Step w s s') (G:GH w s.heap):s'.heap.CodeRec k q:=by
 refine Ax (b) fun e oc vs tk a g h y=>?_;exact(Ba e oc vs tk a (x.keep e oc (Po G g h y) (fun z=>AR h) g) h y)
structure Mr (w:Wd) (h:Heap) (qual:Str) (params:Arguments) (body:Expr) (sc:Scope) (pc:PE) (f:Addr):Prop where
 ex:∃ cl pm Yn dn,h.get? f=some { cls:=.type "function",data:=.func (kla_fn "<lambda>" qual params body sc cl pm Yn dn) }∧h.CodeRec Yn qual∧(∀ p∈cl,∃ v,h.IsCell p.2 v)∧
  ∀ y pv,pc y=some pv→sc.names.lookup y=some .free∧∃ c v,cl.lookup y=some c∧h.IsCell c (some v)∧BA h pv v
theorem Mr.step {h:Str} {params:Arguments} {body:Expr} {f:Addr} (k:Mr w s.heap h params body sc pc f) (x:Step w s s') (G:GH w s.heap):Mr w s'.heap h params body sc pc f:=by
 refine Ax (k.ex) fun u z m l e B t b=>?_;refine⟨u,z,m,l,x.get G e (As (fun q=>nomatch q)) (fun g=>Bj (g) fun n n d=>by injection d),?_,fun p C=>Ap (t p C) fun v j=>⟨v,x.cell G j⟩,fun y pv o=>?_⟩
 ·exact N3 B x G
 ·refine Fs (b y pv o) fun a c v i j r=>?_;exact(Mj a c v i (x.cell G j) (r.step x G))
structure Maker (w:Wd) (names:BC) (c P:Addr) (q:Str):Prop where
 cd:names.cd = .ref c
 hd:∀ h,GH w h→CodeHd h c P
 mem:(P,q)∈EI
section
variable {w:Wd} {names:BC} {n:Nat} {A:Around} {env:Env} {s:Shared} {pe:PE}
theorem N4 {c P:Addr} {params:Arguments} {body:Expr} (C:Cx w names n A env s pe) (M:Maker w names c P q) (hq:names.ql++"<lambda>" = q)
  (I:defaultsOf params env=([],[])) (u:Ci names sc.names pe=true)
  (k:∀ f s',Step w s s'→s'.heap.get? f≠none→Mr w s'.heap q params body sc (A3 names sc.names pe) f→Q (.ref f) s'):wpAny (MD w) A (eval (.Lambda params body sc pos) env) Q E s:=by
 refine kla_eval I ?_;obtain⟨cl,d,VY,H⟩:=DA (scope:=sc) (env:=env) fun y D=>let⟨c,_,i,_⟩:=C5 C u D;⟨c,i⟩;have hP:P∈Cd:=by refine Ar Cn ?_;exact List.mem_map.mpr (AQ _ M.mem rfl)
 obtain⟨ps,e,X,hc⟩:=C.gh.tabs _ M.mem;obtain⟨mg,bm,ob,R,Y,T,a,K,B,h⟩:=C.gh.bmain;have dq:mainGlobals≠P:=by
  rintro rfl;obtain⟨o,es,ep,m,U,_⟩:=R;obtain rfl:=(B6 e m);injection U
 have hb:s.heap.BuiltinsAt mg P:=⟨bm,ob,Y,T,(fun q=>by
  replace a:=q▸a;obtain⟨o,es,ep,m,U,_⟩:=R;obtain rfl:=(B6 a m);injection (h.symm.trans U)),(fun q=>by
  replace a:=q▸a;obtain rfl:=(B6 a e);injection h),a,K,B,h⟩
 have l:env.code = .ref c:=C.eo.cd.trans M.cd;have Z3:env.qual++"<lambda>" = q:=by refine AB C.eo.ql ?_;exact hq
 refine AB Z3 ?_;have J:∀ (s':Shared) (t g Z:Value) (f:Addr),Step w s s'→s'.heap.CodeRec t q→s'.heap.get? f=some { cls:=.type "function",data:=.func (kla_fn "<lambda>" q params body sc cl Z t g) }→Q (.ref f) s':=fun s' t g Z f x L F=>
  k f s' x (by refine AB F ?_;simp) ⟨cl,Z,t,g,F,L,fun p hp=>by
   obtain⟨h1,h2⟩:=VY p hp;obtain⟨O,v,i,j⟩:=C5 C u h2;refine AB (B6 h1 i) ?_;exact⟨_,x.cell C.gh j⟩,fun y pv D=>by
   unfold A3 at D;have z:sc.names.lookup y=some .free∧(names.lookup y=some .cell∨names.lookup y=some .free)∧pe y=some pv:=by
    generalize sc.names.lookup y=u at D ⊢;generalize names.lookup y=v at D ⊢;cases u with
    |none=>injection D
    |some u=>cases u with
     |free=>cases v with
      |none=>injection D
      |some v=>cases v with
       |cell=>exact(B2 rfl (.inl rfl) D)
       |free=>exact(B2 rfl (.inr rfl) D)
       |_=>injection D
     |_=>injection D
   obtain⟨m,G,e3⟩:=z;obtain⟨O,v,i,j,r⟩:=F6 C G e3;exact(Mj m O v ((H y (mem_of_lookup m)).trans i) (x.cell C.gh j) (r.step x C.gh))⟩
 cases F:codeAmong pos ps.toList with
 |some cv=>
  refine Ak (kla_makeFunctionHit d C.eo.gl R l (M.hd _ C.gh) e X F hb fun g h' tk N _ S=>?_);exact J { s with heap:=h'.push _,toks:=tk } cv g ((mg "__name__").getD .none) _ (Step.of_keeps fun b o e=>Br _ (N b o e)) (((hc pos cv F).keeps N).push _) (BD _ rfl)
 |none=>
  refine Ak (kla_makeFunction d C.eo.gl R l (M.hd _ C.gh) e X F dq hb fun O g h' tk N _ _ L W S=>?_);have x:Step w s { s with heap:=h',toks:=tk }:=Step.grown hP (fun p hp V=>Kq hp M.mem V) e X N L W;exact J { s with heap:=h'.push _,toks:=tk } (.ref O) g ((mg "__name__").getD .none) _ (x.trans (Step.push { s with heap:=h',toks:=tk } _)) (L.push _) (BD _ rfl)
end
theorem IS:entryFor table "proto.unchain" = some Builtin.«proto.unchain»:=entryFor_of_fast (by kernel_rfl)
section
variable {w:Wd} {names:BC} {n:Nat} {A:Around} {env:Env} {s s₀:Shared} {pe:PE}
theorem Kr {x:Str} (k:D7 names env) (G:GH w s.heap) (g:GV x v) (f:names.lookup x=some .globalImplicit) (h:Q v s)
  (hd:autoParam ((x==("__debug__" : Str))=false) Dy):wpAny (MD w) A (eval (.Name x pos) env) Q E s:=by
 have y:env.kindOf x=some .globalImplicit:=by show env.scope.names.lookup x=_;refine AB k.nm ?_;exact f
 refine Or.elim (g w s.heap G) (fun a=>?_) (fun b=>?_)
 ·refine AF (a) fun i c e=>?_;exact Name_function_global k.kd y (loadGlobal_global (by refine AB k.gl ?_;exact c) e h) hd
 ·refine CQ (b) fun i l c e j d=>?_;exact Name_function_global k.kd y (loadGlobal_builtin (by refine AB k.gl ?_;exact c) e (by refine AB k.bi ?_;exact j) d h) hd
noncomputable def HN (h:Heap) (hd:Option Value):Prop:=∀ v,hd=some v→∃ e0 o vs,v = .ref e0∧h.get? e0=some o∧o.data = .fields vs∧vs[2]? = some .none
theorem unchain {A:Around} {s:Shared} {h:Addr} {o:Obj} (e:s.heap.get? h=some o) (hd:o.data = .fields vs) (x:vs[2]? = some .none) (k:Q .none s) :
  wpAny (MD w) A (runValue (.builtin "proto.unchain" ⟨[v,.ref h,.ref h,.bool false],[]⟩)) Q E s:=by
 refine wpAny_runValue (codeAny_builtin IS ?_);refine AD (wpAny_field e hd x ?_);refine AB (if_pos (by decide)) ?_
 first
  |(refine AD (AM (AM ?_));exact k)
  |(refine AD (AM ?_);exact k)
  |(refine AM ?_;exact k)
theorem N5 {r:Type} {A:Around} {Q:r→Shared→Prop} {s s₀:Shared} {e:Addr} (G:GH w s₀.heap) (x:Step w s₀ s) (X:Ep s₀.heap s.heap cls e none) (z:cls = .ref 102) (B:HN s.heap A.handled)
  (k:∀ s',Step w s₀ s'→Ep s₀.heap s'.heap cls e none→E (.ref e) s'):wpAny (MD w) A (raiseNew (.ref e):Sem r) Q E s:=by
 refine AD (wpAny_handled ?_);cases hd:A.handled with
 |none=>exact AD (AM (wpAny_throw (k s x X)))
 |some v=>
  refine CX (B v hd) fun l o vs c u H D=>?_;clear hd;obtain rfl:=c;dsimp only;have d:∀ s',Step w s₀ s'→Ep s₀.heap s'.heap cls e none→wpAny (MD w) A (throw (.ref e):Sem r) Q E s':=fun s' C J=>wpAny_throw (k s' C J)
  by_cases f:(Value.ref l != Value.ref e)=true
  ·refine AB (if_pos f) ?_;refine AD (wpAny_holding (unchain u H D ?_));refine EH (X) fun g O F j p y M K m=>?_;have h:F[1]? = some .none:=m;have b:=Obj.data_mapFields y (·.setIfInBounds 2 (Value.ref l));refine AD (wpAny_setField (a:=e) (i:=2) (x:=.ref l) j y (M.symm▸(by decide:2<6)) (d _ (x.upd (t:=s.toks) G (Heap.SameBut.update ..) g j fun I q t N=>by refine Ar (PySem.Data.fields.inj ((y.symm.trans N))) ?_;refine AB h ?_;exact not_eq_of_beq_eq_false rfl) ?_));exact(C0 g _ _ (Heap.get?_update_self _ j (Obj.isFreed_of_fields b)) ((Obj.cls_mapFields _ _).trans p) b (by simp [M]) (fun L=>absurd z L) (by simp [h]))
  ·refine AB (if_neg f) ?_;exact AD (AM (d s x X))
theorem I5:KV=excClassObj "StatisticsError" "StatisticsError" 102 101 [.type "ValueError"] [.type "ValueError",.type "Exception",.type "BaseException",.type "object"] true [] [] false none none
  (some (.ref 93)) none (some (.str "StatisticsError" 458)) (some (.str "StatisticsError" 466)) (some (.bool true)) "ValueError.__new__":=rfl
theorem L9 {x:Sem Value} {Q:Flow→Shared→Prop} (G:GH w s₀.heap) (p:∀ s',Step w s s'→HN s'.heap A.handled)
  (h:wpAny (MD w) A x (fun v s₁=>∃ e t,v = .ref e∧Step w s s₁∧Step w s₀ s₁∧s₀.heap.get? e=none∧s₁.heap.get? e=some { cls:=.ref 102,data:=.fields #[.ref t,.none,.none,.none,.bool false,.none] }∧
   ∀ s',Step w s₀ s'→Ep s₀.heap s'.heap (.ref 102) e none→E (.ref e) s') E s) :
  wpAny (MD w) A (raiseStmt env (some x) none) Q E s:=by
 unfold raiseStmt;refine AD (wpAny_mono h (fun v s₁ k=>?_) fun z z x=>x);refine DT (k) fun e t a i y l o q=>?_;clear k;obtain rfl:=a;have c:=(y.gh G).kin 102 KV rfl;rw [I5]at c;have j:(Value.ref 102::[Value.type "ValueError",.type "Exception",.type "BaseException",.type "object"]).contains (.type "BaseException")=true:=by rfl
 have b:=p s₁ i;obtain⟨m,g,d,tk,os⟩:=s₁;have f:wpAny (MD w) A (raiseNew (.ref e):Sem Flow) Q E ⟨m,g,d,tk,os⟩:=
  N5 (s:=⟨m,g,d,tk,os⟩) G y (C0 l _ _ o rfl rfl rfl (fun z=>rfl) rfl) rfl b q
 repeat (first | with_reducible refine wpAny_loadPart_at o ?_ | with_reducible refine wpAny_loadPart_at c ?_ | (with_reducible refine wpAny_isSubtype_exc c ?_;refine AB j ?_) | wp_step)
 exact f
theorem Ms:GV "StatisticsError" (.ref 102):=BE fun z=>rfl
theorem I6 {y o:Pos} {m:Str} {Q:Flow→Shared→Prop} (z:D7 names env) (q:names.lookup "StatisticsError" = some .globalImplicit) (G:GH w s₀.heap) (x:Step w s₀ s)
  (r:∀ s',Step w s s'→HN s'.heap A.handled) (k:∀ e s',Step w s₀ s'→Ep s₀.heap s'.heap (.ref 102) e none→E (.ref e) s') :
  wpAny (MD w) A (exec (.Raise (some (.Call (.Name "StatisticsError" np) [.Constant (.str m) kk o] [] y)) none pos) env) Q E s:=by
 refine AB (arm_exec_Raise ..) ?_;refine AD (wpAny_standAt (L9 (s₀:=s₀) G r (AD (wpAny_mono (wpAny_Call_ofName (Kr z (x.gh G) Ms q ?_)) (fun v p c=>AD (wpAny_standAt (AM c))) fun n n x=>x))));refine AD (wpAny_holding ?_);have l:backTo y (starEach [Expr.Constant (.str m) kk o] env)=[(false,eval (.Constant (.str m) kk o) env)]:=rfl;refine AB l ?_;refine Calls.evalArgs_plain (Calls.spliced_cons (Constant_str (Calls.spliced_nil ?_)));refine AD (wpAny_standAt ?_);have b:Step w s { s with toks:=s.toks+1 }:=Step.Bu s;have h:=(x.trans b).gh G;have f:s.heap.get? 102=some KV:=h.kin 102 KV rfl;rw [I5]at f;have C:s.heap.Ns 101 (s.heap.nsMap 101):=.of_isNs (isNs_of_in h.kin (by kernel_rfl));have j:s.heap.nsMap 101 "__init__" = none:=nsMap_none_of_in h.kin (by kernel_rfl) (by kernel_rfl);obtain⟨u,g,d,tk,os⟩:=s;refine AD (wpAny_keeperOf_exc f ?_);refine AD (wpAny_call_exc_sub (hrest:=fit_le rfl) PySem.F.excBase_ValueError f C j fun h' e i=>AD (wpAny_holding (wpAny_point (AM ?_))));refine AY (i.there) fun t B n n=>?_;have a:Step w ⟨u,g,d,tk,os⟩ ⟨h',g,d,tk+1,os⟩:=Step.of_keeps i.keeps;exact(Cz e t rfl a (x.trans a) (x.gone G i.new) B (k e))
end
theorem HO (G:GH w h) (e:h.get? a=none):a∉Cd:=fun q=>by
 rw [←Cn]at q;refine AF (List.mem_map.mp q) fun p y k=>?_;clear q;obtain rfl:=k;refine AF (G.tabs p y) fun g x z=>?_;injection (e.symm.trans x)
section
variable {w:Wd} {names:BC} {oc:List Str} {n:Nat} {own own':Option Str} {pe pe':PE} {out:Out}
theorem Ks {m:Str} {c:List Stmt} (j:names.lookup "StatisticsError" = some .globalImplicit) :
  Bo w names oc n own pe (.Raise (some (.Call (.Name "StatisticsError" np) [.Constant (.str m) kk p] [] g)) none pos::c) (.exc (.ref 102)):=fun s₀ A env y s Q E i hl F k=>by
 refine wpAny_execs_cons (I6 F.cx.eo j F.cx.gh (Step.refl w s) (fun s' z v d=>by injection (F.cx.ok.h.symm.trans d)) fun e s' x X=>?_);refine AF (F.cx.ok.f) fun l b o=>?_;rw [i]at b;obtain rfl:env::y=l:=Ai b;exact k e none s' (.inl rfl) (o.step x) (F.st.trans x) (X.old fun a h=>F.st.gone F.g0 h)
theorem Hw {y:ExceptHandler} {a:List ExceptHandler} {e:List Stmt} (b:Hr w names oc n own pe body (.ret pv) s₀):Hr w names oc n own pe (.Try body (y::a) [] [] pos::e) (.ret pv) s₀:=
 fun A env h s Q E g hl F k=>wpAny_execs_cons (wpAny_Try_except (b A env h s _ _ g hl F fun v s' x r=>k v s' x r))
theorem Jj {h:ExceptHandler} {e:List ExceptHandler} (x:Nm w names oc n own pe body own' pe'):N1 w names oc n own pe (.Try body (h::e) [] [] pos) own' pe':=
 fun A env s₀ s Q E F k=>wpAny_Try_except (x A env s₀ s _ _ F fun s' y=>wpAny_execs_nil (k s' y))
theorem L' {h:List Env} {Q:Flow→Shared→Prop} {e:Addr} {B:Option (Option Addr)} {c:Value} {x:Str} {R:Pos} {d:Stmt} {a:List Stmt}
  (I:A.frames=some (env::h)) (hl:env.frame=some env.locals) (J:D7 names env) (G:GH w s₀.heap) (xs:Step w s₀ s) (H:CT w.base s.heap (env::h)) (C:B=none∨B=some none∨B=some (some env.locals)) (X:Ep s₀.heap s.heap cls e B)
  (g:GV x c) (P:names.lookup x=some .globalImplicit) (N:exmOne (K0 w.w.params) cls c=some true) (M:(x==("__debug__" : Str))=false)
  (k:∀ s',Step w s₀ s'→CT w.base s'.heap (env::h)→Ep s₀.heap s'.heap cls e (some none)→
   wpAny (MD w) (A.mark (some (.ref e))) (execs (d::a) env) Q (notedBy (MD w) (A.mark (some (.ref e))) env (cameBackBy (MD w) A env E)) s') :
  wpAny (MD w) A (noteFrame (.ref e) env) (fun n z=>wpAny (MD w) A (setFlight (.ref e) none) (fun n r=>wpAny (MD w) A (handleBy (.ref e) env [.ExceptHandler (some (.Name x np)) none (d::a) R]) Q E r) E z) E s:=by
 refine note I H hl G xs X C fun v o p l=>Hq (s:={ s with heap:=v }) G p l fun y u b f=>?_;refine wpAny_handleBy_cons (codeAny_handlers_test (Kr J (b.gh G) g P ?_ M)) (by intro q;injection q);refine Fs (id f) fun n L vs K D n=>?_;have O:Looks (MD w) y (typeOf (.ref e)) cls:=by
  have:Looks (MD w) y (typeOf (.ref e)) L.cls:=(Looks.ld K).andThen .now;rwa [D]at this
 refine(exm_one (b.gh G).kin O N).here (s:={ s with heap:=y }) ?_;refine codeAny_handlers_suite (Hq (s:={ s with heap:=y }) (m:=none) (m':=none) G b f fun F i t j=>?_);exact k _ t (((H.dk o).dk u).dk i) j
theorem IU {c:Value} {x:Str} {l r:Pos} {y:List Stmt} (t:Hr w names oc n own pe body (.exc cls) s₀) (g:GV x c) (o:names.lookup x=some .globalImplicit)
  (m:exmOne (K0 w.w.params) cls c=some true) (j:autoParam ((x==("__debug__" : Str))=false) B8) :
  Hr w names oc n own pe (.Try body [.ExceptHandler (some (.Name x np)) none [.Return (some (.Constant .none kk r)) l] p] [] [] pos::y) (.ret (.fv .none)) s₀:=
 fun A env h s Q E f hl F k=>wpAny_execs_cons (wpAny_Try_except (t A env h s _ _ f hl F fun e v s' d q xs X=>
  L' f hl F.cx.eo F.g0 xs q d X g o m j fun a b i u=>wpAny_execs_cons (wpAny_Return_some (wpAny_Constant_none (k _ a b rfl)))))
theorem Es {c:Value} {x:Str} {hp W C sp:Pos} {m:Str} {B:List Stmt} (hb:Bo w names oc n own pe body (.exc cls)) (g:GV x c) (hk:names.lookup x=some .globalImplicit)
  (K:names.lookup "StatisticsError" = some .globalImplicit) (hm:∀ P,exmOne (K0 P) cls c=some true) (V:cls≠.ref 102) (Y:autoParam ((x==("__debug__" : Str))=false) B8) :
  Bo w names oc n own pe (.Try body [.ExceptHandler (some (.Name x np)) none [.Raise (some (.Call (.Name "StatisticsError" sp) [.Constant (.str m) kk cp] [] C)) none W] hp] [] [] pos::B) (.exc (.ref 102)):=
 fun s₀ A env l s Q E I hl F k=>wpAny_execs_cons (wpAny_Try_except (hb s₀ A env l s _ _ I hl F fun e st s' L fk xs X=>
  L' I hl F.cx.eo F.g0 xs fk L X g hk (hm _) Y fun D o j O=>by
   have r:∀ y,Step w D y→HN y.heap (A.mark (some (.ref e))).handled:=fun y b v H=>by
    obtain rfl:Value.ref e=v:=by
     have:(A.mark (some (.ref e))).handled=some (.ref e):=rfl;replace H:=this.symm.trans H;exact Ai H
    refine EH (O) fun U M vs J VY d _ N _=>?_;exact(CY e M vs rfl (b.keep e M (HO F.g0 U) (fun _=>AR d) J) d (N V))
   refine wpAny_execs_cons (I6 F.cx.eo K (o.gh F.g0) (Step.refl w D) r fun S y b q=>?_);refine note I (j.step b) hl F.g0 (o.trans b) (q.old fun a h=>o.gone F.g0 h) (.inl rfl) fun f p u i=>?_;obtain⟨_,M,vs,J,_,d,_,_,T,_,_,_,Z,_⟩:=id i;refine AD (wpAny_field (s:={ y with heap:=f }) J d Z ?_);refine AB (if_neg (ne_true_of_eq_false rfl)) ?_;refine AB hl ?_;refine Hq (s:={ y with heap:=f }) (m':=some env.locals) F.g0 u i fun R t G z=>?_;exact k S _ _ (.inr (.inr rfl)) (((j.step b).dk p).dk t) G z))
end
noncomputable def Kt (w:Wd) (names:BC) (n:Nat) (pe:PE) (e:Expr) (out:Out):Prop:=
 ∀ (A:Around) (env:Env) (s:Shared) (Q:Value→Shared→Prop) (E:Value→Shared→Prop),Cx w names n A env s pe→
  Pb w s out Q E→wpAny (MD w) A (eval e env) Q E s
section
variable {w:Wd} {names:BC} {n:Nat} {pe:PE}
theorem Ev.x (h:Ev w names n pe e pv):Kt w names n pe e (.ret pv):=fun A env s Q E C k=>h A env s Q E C k
theorem Kt.ev (h:Kt w names n pe e (.ret pv)):Ev w names n pe e pv:=fun A env s Q E C k=>h A env s Q E C k
theorem Dm.r {f:Value} {x:List PV} {nm:List Str} {e:List PV} (h:Dm w n f x nm e (.ret pv)):Hl w n f x nm e pv:=fun A s Q E vs ks G g r y k=>h A s Q E vs ks G g r y k
theorem Hl.o {f:Value} {x:List PV} {nm:List Str} {e:List PV} (h:Hl w n f x nm e pv):Dm w n f x nm e (.ret pv):=fun A s Q E vs ks G g r y k=>h A s Q E vs ks G g r y k
theorem Bb {x:Str} {f:Addr} {o:Obj} {ks:List Keyword} {d l:List PV} {nm:List Str} {out:Out} (g:GV x (.ref f)) (H:names.lookup x=some .globalImplicit)
  (D:(K0 w.w.params).lookup f=some o) (j:o.data = .func fd)
  (u:es.all BK=true) (t:ks.map (·.arg)=nm.map some) (hl:Lx w names n pe es d) (z:SK w names n pe ks nm l) (B:Dm w n (.ref f) d nm l out) (hd:autoParam ((x==("__debug__" : Str))=false) B8) :
  Kt w names n pe (.Call (.Name x np) es ks pos) out:=fun A env s Q E C h=>by
 refine CK (DE ks nm env pos t) fun G I J=>?_;refine wpAny_Call_ofName (BF C g H ?_ hd);refine callWith_def_kw (o:=o) (fd:=fd) j (Ae u I ?_);refine hl A env s pos _ E C fun vs s₁ k i=>z A env s₁ pos _ E (C.step k) fun F q y m=>?_;refine⟨((C.step k).step y).gh.kin _ _ D,?_⟩
 dsimp only;refine AB G ?_;refine B A q _ E vs F ((C.step k).step y).gh ((C.step k).step y).ok (i.step y (C.step k).gh) m ?_;clear B;induction out with
 |ret pv=>exact fun v b c p=>h v b ((k.trans y).trans c) p
 |exc cls=>exact fun e b c r=>h e b ((k.trans y).trans c) (r.old fun a h=>(k.trans y).gone C.gh h)
theorem locs {N:List (Str×NameKind)} {l:List (Str×PV)} (h:(l.map fun p=>N.lookup p.1)=l.map fun z=>some .local):∀ p∈l,N.lookup p.1=some .local∨(p.1∈Ct N∧N.lookup p.1=some .cell):=fun p k=>.inl (List.map_inj_left.mp h p k)
theorem Jk {f:Addr} {o:Obj} {x g:List PV} {nm:List Str} {bs:List (Str×PV)} {out:Out}
  (t:(K0 w.w.params).lookup f=some o) (y:o.data = .func fd) (e:fd.body = .stmts body) (j:fd.closure=[])
  (v:∀ (vs ks:List Value) (h:Heap),Bs h x vs→Bs h g ks→∃ binds,(∀ S,peek (K0 w.w.params) S (bindArgs fd ⟨vs,nm.zip ks⟩)=some binds)∧binds.map (·.1)=bs.map (·.1)∧Bs h (bs.map (·.2)) (binds.map (·.2)))
  (i:∀ h,GH w h→h.CodeRec fd.code fd.qualname)
  (c:∀ p∈bs,fd.scope.names.lookup p.1=some .local∨(p.1∈Ct fd.scope.names∧fd.scope.names.lookup p.1=some .cell))
  (D:Bo w (Iy fd) (Ct fd.scope.names) n none (PE.sets (fun Z=>none) bs) body out)
  (l:namesOk fd.scope.names=true) (b:fd.globals=mainGlobals) (d:fd.builtins=builtinsNs)
  (m:fd.scope.isCoroutine=false) (a:fd.scope.isGenerator=false) (F:fd.scope.kind = .function) :
  Dm w (n+1) (.ref f) x nm g out:=fun A s Q E vs ks G C r B k=>by
 refine AY (v vs ks s.heap r B) fun binds z q u=>?_;exact Mm G C (G.kin f o t) y e (kp_binds G.kin z) (i _ G) (by refine AB j ?_;exact Dh) (fun Z Z h=>by injection h) q u c (D s) k l b d m a F
noncomputable def N6:Out→PV
 |.ret pv=>pv
 |.exc _=>.fv .none
theorem N7:(JS (BM 25)).names.lookup ("ask" : Str)=some NameKind.local:=rfl
theorem Pp:∃ y k x g a h np kk e,Ag (BM 25)=[.Try [.Return (some (.Call (.Name "ask" np) [] [] y)) x] [.ExceptHandler (some (.Name "StatisticsError" e)) none [.Return (some (.Constant .none kk h)) a] k] [] [] g]:=⟨_,_,_,_,_,_,_,_,_,rfl⟩
theorem Pq {lp:Pos} {c P:Addr} {params:Arguments} {body:Expr} {out:Out} (hk:names.lookup "_law_ask" = some .globalImplicit) (M:Maker w names c P q) (hq:names.ql++"<lambda>" = q)
  (H:∀ env,defaultsOf params env=([],[])) (G:Ci names sc.names pe=true) (Y:namesOk sc.names=true) (Z:sc.isCoroutine=false) (K:sc.isGenerator=false) (W:sc.kind = .function)
  (u:∀ D N g j,bindArgs (kla_fn "<lambda>" q params body sc D N g j) ⟨[],[]⟩=pure [])
  (d:∀ g,Kt w ⟨sc.names,g,q++".<locals>."⟩ n (A3 names sc.names pe) body out) (L:∀ cls,out = .exc cls→cls = .ref 102) :
  Ev w names (n+2) pe (.Call (.Name "_law_ask" np) [.Lambda params body sc lp] [] pos) (N6 out):=fun A env s Q E C k=>by
 refine wpAny_Call_ofName (BF C (BE fun _=>rfl:GV "_law_ask" (.ref 433)) hk ?_);refine callWith_def_kw (o:=PI) rfl (Ae rfl rfl ?_);show wpAny _ A (spliced ((false,eval (.Lambda params body sc lp) env)::[])) _ _ s;refine spliced_cons (N4 C M hq (H env) G fun f s₁ i _ R=>spliced_nil ?_);refine AM ⟨(C.step i).gh.kin 433 _ rfl,?_⟩;have y:=C.step i;refine Mm (n:=n+1) (out:=.ret (N6 out)) (bs:=[("ask",.raw (.ref f))]) (pc:=fun _=>none) (binds:=[("ask",.ref f)]) y.gh y.ok (y.gh.kin 433 PI rfl) rfl rfl (kp_binds y.gh.kin fun S=>rfl) ?_ (by intro p B;cases B) (fun _ _ h=>by injection h) rfl ⟨rfl,trivial⟩ (fun p B=>?_) ?_
  (fun v s' x r=>k v s' (i.trans x) r) rfl rfl rfl rfl rfl rfl
 ·exact(Ba 432 _ _ _ rfl (y.gh.kin 432 Uh rfl) rfl rfl)
 ·refine AB (List.mem_singleton.mp B) ?_;exact .inl N7
 ·
  obtain⟨cp,B,rp,tp,sp,gY,V,kk,xp,T⟩:=Pp;show Hr w _ _ (n+1) none _ (Ag (BM 25)) _ s₁;refine AB T ?_;have b:∀ (m:List Stmt),Hr w (Iy (fnAt (BM 25) "_law_ask" "_law_ask" 3 [] .none .none .none (.str "law_ij0066_01" 986) none (.ref 432) .none 0)) (Ct (JS (BM 25)).names) (n+1) none (PE.sets (fun _=>none) [("ask",.raw (.ref f))])
    (.Return (some (.Call (.Name "ask" V) [] [] cp)) rp::m) out s₁:=fun m A2 O t a0 Q2 E2 hf hl F k2=>by
   refine wpAny_execs_cons (wpAny_Return_some ?_);refine AF (F.cx.vars "ask" (.raw (.ref f)) rfl) fun v va rv=>?_;obtain rfl:=rv;refine wpAny_Call_ofName (Fe F.cx.eo.kd va ?_);refine Ax ((R.step F.st y.gh).ex) fun D N g j e hr hc U=>?_;refine callWith_def_kw (o:={ cls:=.type "function",data:=.func (kla_fn "<lambda>" q params body sc D N g j) }) (fd:=kla_fn "<lambda>" q params body sc D N g j) rfl (Ae rfl rfl ?_);refine spliced_nil (AM ⟨e,?_⟩);refine Pf (n:=n) (out:=out) (bs:=[]) (binds:=[]) (pc:=A3 names sc.names pe) F.cx.gh F.cx.ok e rfl rfl (.of_eq (u D N g j)) hr hc U rfl trivial (fun p B=>by cases B) (fun I J Q3 E3 F3 k3=>d g _ I J Q3 E3 F3.cx k3) ?_ Y rfl rfl Z K W;refine AF (F.cx.ok.f) fun l z fk=>?_;replace z:=hf▸z;obtain rfl:O::t=l:=Ai z
   induction out with
   |ret pv=>exact fun v s' x r=>k2 v s' (F.st.trans x) r
   |exc cls=>exact fun e s' x X=>k2 e (some none) s' (.inr (.inl rfl)) (fk.step x) (F.st.trans x) (X.old fun a h=>F.st.gone F.g0 h)
  induction out with
  |ret pv=>exact Hw (b [])
  |exc cls=>
   clear d k;obtain rfl:=L cls rfl;exact IU (b []) Ms rfl (by kernel_rfl)
end
theorem N8:builtinKind "math.fsum" = none:=by rfl
theorem MA:plainId "math.fsum" = true:=by decide +kernel
theorem MB:entryFor table "math.fsum" = some Builtin.«math.fsum»:=entryFor_of_fast (by kernel_rfl)
theorem N9 (a:Value):argsOk "math.fsum" ⟨[a],[]⟩:=by kernel_rfl
theorem Dn:plainId "math.fsum.loop" = true:=by decide +kernel
theorem G9:entryFor table "math.fsum.loop" = some Builtin.«math.fsum.loop»:=entryFor_of_fast (by kernel_rfl)
theorem SQ:builtinKind "math.sumprod" = none:=by rfl
theorem Pr:plainId "math.sumprod" = true:=by decide +kernel
theorem Pt:entryFor table "math.sumprod" = some Builtin.«math.sumprod»:=entryFor_of_fast (by kernel_rfl)
theorem SR (a b:Value):argsOk "math.sumprod" ⟨[a,b],[]⟩:=by kernel_rfl
theorem DV:plainId "math.sumprod.loop" = true:=by decide +kernel
theorem Gd:entryFor table "math.sumprod.loop" = some Builtin.«math.sumprod.loop»:=entryFor_of_fast (by kernel_rfl)
theorem CZ {i:Int} (h:i.natAbs<2^53):¬PySem.Flt.Over i:=fun c=>absurd (Nat.lt_of_lt_of_le h (by decide +kernel:2^53≤2^1024-2^970)) (Nat.not_lt.mpr c)
noncomputable def toF:FV→Option UInt64
 |.int i=>if i.natAbs<2^53 then some (Float64.ofInt i)else none
 |.AS x=>some x
 |_=>none
noncomputable def Hx (r:List UInt64×UInt64):List UInt64:=if Float64.isZero r.2 then r.1 else r.1++[r.2]
noncomputable def Jl (ps:List UInt64) (x:UInt64):Option (List UInt64):=
 if Float64.isFinite (Float64.fsumAdd ps x).2=true∧(Hx (Float64.fsumAdd ps x)).length≤1000 then some (Hx (Float64.fsumAdd ps x))else none
noncomputable def Et:List FV→List UInt64→Option (List UInt64)
 |[],ps=>some ps
 |f::fs,ps=>match toF f with
  |none=>none
  |some x=>match Jl ps x with
   |none=>none
   |some q=>Et fs q
theorem N' (xs:List UInt64):((xs.map fun x=>rawInt x.toNat).map fun v=>(match v with | .int i _=>i.toNat.toUInt64 | _=>0:UInt64))=xs:=by
 induction xs with
 |nil=>rfl
 |cons x xs h=>simp [rawInt]at h ⊢;exact h
section
variable {w:Wd} {n:Nat} {A:Around} {s:Shared} {Q:UInt64→Shared→Prop} {E:Value→Shared→Prop}
set_option tactic.hygienic true in
theorem Pu {x:UInt64} (g:A.handled=none) (r:Dl f v) (h:toF f=some x) (k:∀ tk,Q x { s with toks:=tk }):wpAny (MD w) A (Builtin.Math.realArg v) Q E s:=by
 induction f with
 |none=>injection h
 |bool=>injection h
 |AS y=>
  obtain⟨t,rfl⟩:=r;refine AB (Ai h) ?_;unfold Builtin.Math.realArg;exact AD (AM (AM (k s.toks)))
 |int i=>
  obtain⟨t,rfl⟩:=r;simp only [toF]at h;split at h
  ·rename_i hi;obtain rfl:=(Ai h)
   have e:¬PySem.Flt.Over i:=CZ hi;exact PySem.Flt.realArg_int g (fun c=>absurd c e) fun z=>k _
  ·injection h
noncomputable def packed (xs:List UInt64):Array Value:=(xs.map fun x=>rawInt x.toNat).toArray
theorem Dp {T:Addr} {k:List UInt64} {Q:List UInt64→Shared→Prop} (x:s.heap.IsTuple T (packed k)) (h:Q k s) :
  wpAny (MD w) A (seqItems? (.ref T)>>=fun r=>pure ((r.getD #[]).toList.map fun v=>(match v with | .int i _=>i.toNat.toUInt64 | _=>0:UInt64))) Q E s:=by
 refine B0 (id x) fun b y a g e=>?_;refine AD (wpAny_seqItems y e (AM ?_));have:((some (packed k)).getD #[]).toList.map (fun v=>(match v with | .int i _=>i.toNat.toUInt64 | _=>0:UInt64))=k:=by
  simp only [Option.getD_some,packed,List.toList_toArray];exact N' k
 refine AB this ?_;exact h
theorem Ge {xs:List UInt64} {Q:Value→Shared→Prop} (k:xs.length≤1000) (h:∀ T h',(∀ b o,s.heap.get? b=some o→h'.get? b=some o)→h'.IsTuple T (packed xs)→Q (.ref T) { s with heap:=h' }) :
  wpAny (MD w) A (newTuple (xs.map fun x=>rawInt x.toNat)) Q E s:=
 wpAny_newTuple (h _ _ (fun b o e=>Br _ e) (Cc _ (BD _ rfl) rfl _ rfl)) (by refine AB (List.length_map ..) ?_;exact AJ k (Nat.le_add_left 1000 16776216))
theorem OA:Float64.isZero (Float64.zero false)=true:=by decide +kernel
set_option tactic.hygienic true in
theorem OB {g:Array Value} {Q:Value→Shared→Prop} {E:Value→Shared→Prop} (P:A.handled=none) (G:GH w s₀.heap) (tp:0<s₀.toks) (C:s₀.heap.get? I=none) (N:a≠I) :
  ∀ (fs:List FV) (i:Nat) (z qs:List UInt64) (T Z:Addr) (s:Shared),Step w s₀ s→s.heap.IsListIter I a i→s.heap.IsList a g→Al fs (g.toList.drop i)→Et fs z=some qs→
   s.heap.IsTuple T (packed z)→s.heap.IsTuple Z (packed [Float64.zero false,Float64.zero false])→
   (∀ v s',Step w s₀ s'→BZ (.AS (Float64.fsumEnd qs)) v→Q v s')→
   codeAny (MD w) A (.builtin "math.fsum.loop" ⟨[.ref I,.ref T,.ref Z],[]⟩) (DH Q E) s:=by
 intro fs
 induction fs with
 |nil=>
  intro i z qs T Z s x p hl j y J F k;refine codeAny_builtin G9 ?_;refine AB (Around.under_plainId Dn _) ?_;obtain rfl:=(Ai y)
  refine AD (Dp J ?_);refine AD (Dp F ?_);have u:g[i]? = none:=by
   have:=j.length;rw [List.length_nil]at this;have Y:g.size≤i:=by
    rw [List.length_drop,Array.length_toList]at this;exact Nat.le_of_sub_eq_zero this
   exact Array.getElem?_eq_none Y
  refine AD (wpAny_pyNext_list_end P p hl u fun h' W=>?_);refine AB OA ?_;have D:Step w s₀ { s with heap:=h' }:=x.many (wr:=[I]) (t:=s.toks) G (fun b o h e=>W b o (List.ne_of_not_mem_cons h) e) (fun b h=>by refine AB (List.mem_singleton.mp h) ?_;exact C) (fun b h o e=>by
   replace e:=(List.mem_singleton.mp h)▸e;refine AY (p) fun o' B c d=>?_;obtain rfl:=(B6 e B)
   exact BX d fun q t=>by exact Ne.symm (not_eq_of_beq_eq_false rfl))
  refine AB (if_neg (by decide)) ?_;exact fun n n n=>k _ _ (D.trans (Step.Bu _)) (D6 (Nat.lt_of_lt_of_le tp D.tk))
 |cons f fs ih=>
  intro i z qs T Z s x p hl j y J F k;refine codeAny_builtin G9 ?_;refine AB (Around.under_plainId Dn _) ?_;refine AD (Dp J ?_);refine AD (Dp F ?_);cases hd:g.toList.drop i with
  |nil=>replace j:=hd▸j;exact j.elim
  |cons v vs=>
   rw [hd]at j;have U:g[i]? = some v:=by
    have:(g.toList.drop i)[0]? = some v:=by refine AB hd ?_;rfl
    simpa [List.getElem?_drop]using this
   have M:g.toList.drop (i+1)=vs:=by
    have:(g.toList.drop i).drop 1=vs:=by refine AB hd ?_;rfl
    rwa [List.drop_drop]at this
   rw [Et]at y;cases hx:toF f with
   |none=>replace y:=hx▸y;injection y
   |some xf=>
    replace y:=hx▸y;simp only [Jl]at y;split at y
    ·injection y
    ·rename_i q hq;split at hq
     ·rename_i hc;obtain rfl:=(Ai hq)
      refine AD (wpAny_pyNext_list_item p hl U fun h' O R=>?_);dsimp only;refine AD (wpAny_holding (Ak (Pu P j.1.weak hx fun tk V=>?_)));refine AB (if_pos hc.1) ?_;refine AD (Ge (xs:=Hx (Float64.fsumAdd z xf)) hc.2 fun T' l L H=>?_);have D:Step w s₀ { s with heap:=h',toks:=tk }:=x.many (wr:=[I]) G (fun b o h e=>(R.2 b (List.ne_of_not_mem_cons h)).trans e) (fun b h=>by refine AB (List.mem_singleton.mp h) ?_;exact C) (fun b h o e=>by
       replace e:=(List.mem_singleton.mp h)▸e;refine AY (p) fun o' B c d=>?_;obtain rfl:=(B6 e B)
       exact BX d fun q t=>by exact Ne.symm (not_eq_of_beq_eq_false rfl))
      have K:Step w s₀ { s with heap:=l,toks:=tk }:=D.trans (Step.of_keeps (s:={ s with heap:=h',toks:=tk }) L);have S:∀ b o,b≠I→s.heap.get? b=some o→l.get? b=some o:=fun b o h e=>L b o ((R.2 b h).trans e);refine AD (AM (AM ⟨plainId_quiet Dn _,ih (i+1) _ qs T' Z { s with heap:=l,toks:=tk } K ?_ ?_ (M▸j.2) y H ?_ k⟩))
      ·refine AF (O) fun o e r=>?_;exact(AQ o (L _ _ e) r)
      ·refine AF (hl) fun o e r=>?_;exact(AQ o (S _ _ N e) r)
      ·refine B0 (F) fun o e c m d=>?_;refine(Cc o (S _ _ ?_ e) c m d)
       rintro rfl;refine AY (p) fun o' B c' X=>?_;clear c';obtain rfl:=(B6 e B);injection (d.symm.trans X)
     ·injection hq
theorem SS {qs:List UInt64} (p:Et xs []=some qs):Hl w n (.builtin "math.fsum") [.list xs] [] [] (.fv (.AS (Float64.fsumEnd qs))):=fun A s Q E vs ks G f r q k=>by
 refine D4 (BP r) fun v y a z c hl u=>?_;obtain rfl:=y;obtain rfl:=c;obtain rfl:=A6 q;refine call_function_tree N8 MA MB (N9 _) ?_;refine AD (m:=Builtin.Math.mathOne "fsum" _) (AM ?_);refine AD (wpAny_pyIter_list hl ?_);refine AD (Ge (xs:=[]) (by decide) fun T h' i j=>?_);refine AD (Ge (xs:=[Float64.zero false,Float64.zero false]) (by decide) fun Z g x l=>?_);have d:a≠s.heap.objs.size:=by refine AF (hl) fun o e Y=>?_;exact Nat.ne_of_lt (Heap.lt_size e)
 have kk:∀ b o,s.heap.get? b=some o→g.get? b=some o:=fun b o e=>x b o (i b o (Br _ e));refine AM ⟨plainId_quiet Dn _,OB (A:=A) f.h G f.tk (fresh_at s.heap) d xs 0 [] qs T Z { s with heap:=g } (Step.of_keeps (t:=s.toks) kk) (Aj _ (x _ _ (i _ _ (BD _ rfl))) rfl rfl) ?_ (by trivial) p ?_ l k⟩
 ·refine AF (hl) fun o e r=>?_;exact(AQ o (kk _ _ e) r)
 ·refine AF (j) fun o e r=>?_;exact(AQ o (x _ _ e) r)
end
end
section
open PySem PySem.W PySem.Calls PyProof.Rows PySem.Spec PySem.Builtin.Math
noncomputable def KO (wr:List Addr) (h:Heap):Prop:=∀ p∈EI,∃ ps,h.get? p.1=some (tabObj ps)∧∀ pos cv,codeAmong pos ps.toList=some cv→∀ b∈wr,cv≠.ref b
theorem KO.kept {wr:List Addr} (x:KO wr h) (k:∀ p∈EI,∀ o,h.get? p.1=some o→h'.get? p.1=some o):KO wr h':=fun p y=>AF (x p y) fun g e c=>(AQ g (k p y _ e) c)
structure Quiet (fp:List Addr) (gx:Option Nat) (s s':Shared):Prop where
 heap:∀ b∈fp,∀ o,s.heap.get? b=some o→s'.heap.get? b=some o
 gens:∀ j,gx=some j→s'.gens[j]? = s.gens[j]?
 Z4:∀ wr,(∀ b∈wr,b∈fp)→KO wr s.heap→KO wr s'.heap
structure Wi (wr:List Addr) (gx:Option Nat) (s s':Shared):Prop where
 heap:∀ b o,b∉wr→s.heap.get? b=some o→s'.heap.get? b=some o
 gens:∀ j,gx≠some j→s'.gens[j]? = s.gens[j]?∨s.gens[j]? = none
 tab:∀ p∈EI,∀ o,s.heap.get? p.1=some o→s'.heap.get? p.1=some o
theorem Wi.quiet {wr fp:List Addr} {g k:Option Nat} (o:Wi wr g s s') (h:∀ b∈wr,b∉fp) (i:∀ j,k=some j→g≠some j) (d:∀ j,k=some j→∃ x,s.gens[j]? = some x):Quiet fp k s s':=
 ⟨fun b f a e=>o.heap b a (fun m=>h b m f) e,fun j y=>(o.gens j (i j y)).elim id (fun q=>by obtain⟨x,e⟩:=d j y;injection (q.symm.trans e)),fun c z t=>t.kept o.tab⟩
theorem EK {fp:List Addr} {g:Option Nat} (k:∀ b o,s.heap.get? b=some o→s'.heap.get? b=some o) (h:s'.gens=s.gens):Quiet fp g s s':=⟨fun b z o e=>k b o e,fun j z=>by refine AB h ?_;rfl,fun x z t=>t.kept fun p z o e=>k _ o e⟩
structure KP (w:Wd) (A:Around) (s₀:Shared) (it:Value) (xs:List FV) (fp wr:List Addr) (gx:Option Nat) (St:Nat→Shared→Prop):Prop where
 next:∀ i s (Q:Option Value→Shared→Prop) (E:Value→Shared→Prop),Step w s₀ s→St i s→i≤xs.length→
  (xs[i]? = none→∀ s',Step w s₀ s'→Wi wr gx s s'→Q none s')→
  (∀ f,xs[i]? = some f→∀ v s',Dl f v→Step w s₀ s'→St (i+1) s'→Wi wr gx s s'→Q (some v) s')→wpAny (MD w) A (pyNext it) Q E s
 keep:∀ i s s',St i s→Quiet fp gx s s'→St i s'
 live:∀ i s,St i s→∀ j,gx=some j→∃ g,s.gens[j]? = some g
section
variable {w:Wd} {n:Nat} {A:Around} {s s₀:Shared}
theorem Hy {g:List Value} (U:A.handled=none) (G:GH w s₀.heap) (B:s₀.heap.get? I=none) (M:a≠I) (P:Al xs g) :
  KP w A s₀ (.ref I) xs [I,a] [I] none (fun i s=>s.heap.IsListIter I a i∧s.heap.IsList a g.toArray) where
 next:=fun i s Q E x H hi Y ks=>by
  refine Bt (H) fun L hl=>?_;have C:g.length=xs.length:=P.length;have y:∀ p∈EI,p.1≠I:=fun p z e=>by
   refine AF (G.tabs p z) fun Z F n=>?_;rw [e,B]at F;injection F
  have R:∀ b∈[I],∀ o,s.heap.get? b=some o→HI o:=fun b k o e=>by
   replace e:=(List.mem_singleton.mp k)▸e;refine AY (L) fun o' F c d=>?_;refine AB (B6 e F) ?_;exact BX d fun q t=>by exact Ne.symm (not_eq_of_beq_eq_false rfl)
  have f0:∀ b∈[I],s₀.heap.get? b=none:=fun b k=>by refine AB (List.mem_singleton.mp k) ?_;exact B
  by_cases l:i<xs.length
  ·obtain⟨v,O⟩:∃ v,g[i]? = some v:=⟨g[i],by exact List.getElem?_eq_getElem _⟩
   refine AF (P.get O) fun f J V=>?_;refine wpAny_pyNext_list_item L hl (x:=v) (by simpa using O) fun h' N D=>?_;refine ks f J v _ V.weak (x.many (t:=s.toks) (wr:=[I]) G (fun b o k e=>(D.2 b (List.ne_of_not_mem_cons k)).trans e) f0 R) ⟨N,?_⟩ ⟨fun b o k e=>(D.2 b (List.ne_of_not_mem_cons k)).trans e,fun j n=>.inl rfl,fun p z o e=>(D.2 _ (y p z)).trans e⟩;refine AF (hl) fun o e r=>?_;exact(AQ o ((D.2 a M).trans e) r)
  ·have:g[i]? = none:=by simp [C];exact Nat.le_of_not_lt l
   refine wpAny_pyNext_list_end U L hl (by simpa using this) fun h' K=>?_;exact Y (by simp;exact Nat.le_of_not_lt l) _ (x.many (t:=s.toks) (wr:=[I]) G (fun b o k e=>K b o (List.ne_of_not_mem_cons k) e) f0 R) ⟨fun b o k e=>K b o (List.ne_of_not_mem_cons k) e,fun j n=>.inl rfl,fun p z o e=>K _ o (y p z) e⟩
 keep:=fun i s s' H q=>by
  refine Bt (H) fun u m=>?_;refine AF (u) fun o e r=>?_;refine AF (m) fun W S X=>?_;exact⟨(AQ o (q.heap _ D1 _ e) r),(AQ W (q.heap _ (by simp) _ S) X)⟩
 live:=fun i s H j h=>by injection h
noncomputable def Pw:List Int→List Int→Int
 |a::as,b::bs=>a*b+Pw as bs
 |_,_=>0
noncomputable def Hz:FV→Option UInt64
 |.AS x=>some x
 |.int i=>if Float64.isInf (Float64.ofInt i)then none else some (Float64.ofInt i)
 |_=>none
noncomputable def EL:FV→Bool
 |.AS _=>true
 |_=>false
abbrev Bc:=UInt64×UInt64×UInt64
noncomputable def Eu:List FV→List FV→Bc→Option Bc
 |a::as,b::bs,t=>(Hz a).bind fun x=>(Hz b).bind fun y=>if(EL a||EL b)=true∧Float64.isFinite (tlFma x y t).1=true then Eu as bs (tlFma x y t)else none
 |[],[],t=>some t
 |_,_,_=>none
noncomputable def Fh (t:Bc):List Value:=[rawInt t.1.toNat,rawInt t.2.1.toNat,rawInt t.2.2.toNat]
theorem Px (x:UInt64):((x.toNat:Int).toNat).toUInt64=x:=Flt.comp_back x
theorem dr {x:UInt64} (h:Q (.float x s.toks) { s with toks:=s.toks+1 }):wpAny (MD w) A (mkFloat x) Q E s:=fun z z z=>h
noncomputable def z3:Bc:=(Float64.zero false,Float64.zero false,Float64.zero false)
abbrev cP (p q:Value) (tk:Tok) (io:Bool) (m:Int) (iu fu:Bool) (T:Value):Args:=⟨[p,q,.int 0 tk,.bool io,rawInt m,.bool iu,.bool true,T,.bool fu],[]⟩
abbrev Wj (p q:Value) (tk:Tok) (io:Bool) (m:Int) (iu fu:Bool) (T:Value):Code:=.builtin "math.sumprod.loop" (cP p q tk io m iu fu T)
noncomputable def tb (t:Bc):Bc:=((t.1.toNat:Int).toNat.toUInt64,(t.2.1.toNat:Int).toNat.toUInt64,(t.2.2.toNat:Int).toNat.toUInt64)
theorem Py (t:Bc):tb t=t:=by simp only [tb,Px]
noncomputable def Pz (p q:Value) (tk:Tok) (t:Bc):Sem Fin:=newTuple (Fh t)>>=fun T=>again (Wj p q tk false 0 false true T)
abbrev Tl:=Option Value→Option Value→Sem Fin
abbrev Sh (p q:Value) (tk:Tok) (io:Bool) (m:Int) (iu fu:Bool) (T:Addr) (t:Bc) (tl:Tl):Prop:=∀ (w:Wd) (A:Around) Q E s,s.heap.IsTuple T (Fh t).toArray→
 wpAny (MD w) A (pyNext p) (fun a s₁=>wpAny (MD w) A (pyNext q) (fun b CN=>wpAny (MD w) A (tl a b) Q E CN) E s₁) E s→wpAny (MD w) A (Builtin.«math.sumprod.loop» (cP p q tk io m iu fu (.ref T))) Q E s
theorem du {w:Wd} {p q:Value} {K:Tl} {A:Around} {Q:PySem.Fin→Shared→Prop} {s:Shared} (h:wpAny (MD w) A (pyNext p) (fun a s₁=>wpAny (MD w) A (pyNext q) (fun b CN=>wpAny (MD w) A (K a b) Q E CN) E s₁) E s):wpAny (MD w) A (pyNext p>>=fun a=>holding a.toList (pyNext q)>>=fun b=>K a b) Q E s:=
 AD (wpAny_mono h (fun z z h1=>AD (wpAny_holding (wpAny_mono h1 (fun z z h2=>h2) fun z z e=>e))) fun z z e=>e)
noncomputable def sh (p q:Value) (tk:Tok) (io:Bool) (m:Int) (iu fu:Bool) (T:Addr) (t:Bc):{ tl:Tl // Sh p q tk io m iu fu T t tl }:=
 ⟨_,fun w A Q E s z h=>B0 z fun y e y y d=>AD (wpAny_seqItems e d (du h))⟩
noncomputable def Uq (p q:Value) (tk:Tok):=sh p q tk false 0 false true
noncomputable def SU (p q:Value) (tk:Tok) (m:Int) (u:Bool) (T:Addr):=sh p q tk true m u false T z3
section
variable {p q:Value} {tk:Tok} {T:Addr} {t:Bc} {s:Shared} {w:Wd} {A:Around} {Q:Fin→Shared→Prop} {E:Value→Shared→Prop}
theorem Ku {k:Type} {t x:Sem k} {Q:k→Shared→Prop} (e:t=x) (h:wpAny (MD w) A x Q E s):wpAny (MD w) A t Q E s:=by refine AB e ?_;exact h
theorem VZ {a b:UInt64} {i j:Tok} (h:Float64.isFinite (tlFma a b (tb t)).1=true):(Uq p q tk T t).1 (some (.float a i)) (some (.float b j))=Pz p q tk (tlFma a b (tb t)):=
 (if_pos h:(if Float64.isFinite (tlFma a b (tb t)).1=true then _ else _)=_)
theorem Va {a:UInt64} {b:Int} {i j:Tok} (k:Float64.isInf (Float64.ofInt b)=false) (h:Float64.isFinite (tlFma a (Float64.ofInt b) (tb t)).1=true):(Uq p q tk T t).1 (some (.float a i)) (some (.int b j))=Pz p q tk (tlFma a (Float64.ofInt b) (tb t)):=by
 delta Uq sh;dsimp only;refine AB k ?_;exact if_pos h
theorem Vb {a:Int} {b:UInt64} {i j:Tok} (k:Float64.isInf (Float64.ofInt a)=false) (h:Float64.isFinite (tlFma (Float64.ofInt a) b (tb t)).1=true):(Uq p q tk T t).1 (some (.int a i)) (some (.float b j))=Pz p q tk (tlFma (Float64.ofInt a) b (tb t)):=by
 delta Uq sh;dsimp only;refine AB k ?_;exact if_pos h
theorem Vc {a b:UInt64} {i j:Tok} (h:Float64.isFinite (tlFma a b (tb z3)).1=true) (k:wpAny (MD w) A (Pz p q tk (tlFma a b (tb z3))) Q E s):wpAny (MD w) A ((SU p q tk 0 false T).1 (some (.float a i)) (some (.float b j))) Q E s:=
 AD (wpAny_rule (Ku (if_pos h) k))
theorem Vd {a:UInt64} {b:Int} {i j:Tok} (e:Float64.isInf (Float64.ofInt b)=false) (h:Float64.isFinite (tlFma a (Float64.ofInt b) (tb z3)).1=true) (k:wpAny (MD w) A (Pz p q tk (tlFma a (Float64.ofInt b) (tb z3))) Q E s):wpAny (MD w) A ((SU p q tk 0 false T).1 (some (.float a i)) (some (.int b j))) Q E s:=by
 delta SU sh;dsimp only;refine AB e ?_;exact AD (wpAny_rule (Ku (if_pos h) k))
theorem Ve {a:Int} {b:UInt64} {i j:Tok} (e:Float64.isInf (Float64.ofInt a)=false) (h:Float64.isFinite (tlFma (Float64.ofInt a) b (tb z3)).1=true) (k:wpAny (MD w) A (Pz p q tk (tlFma (Float64.ofInt a) b (tb z3))) Q E s):wpAny (MD w) A ((SU p q tk 0 false T).1 (some (.int a i)) (some (.float b j))) Q E s:=by
 delta SU sh;dsimp only;refine AB e ?_;exact AD (wpAny_rule (Ku (if_pos h) k))
theorem Kv {P:Value→Value→UInt64→UInt64→Prop} (C:∀ a b i j,P (.float a i) (.float b j) a b) (D:∀ a b i j,Float64.isInf (Float64.ofInt b)=false→P (.float a i) (.int b j) a (Float64.ofInt b)) (v:∀ a b i j,Float64.isInf (Float64.ofInt a)=false→P (.int a i) (.float b j) (Float64.ofInt a) b) :
  ∀ {d g m l x y},Dl d m→Dl g l→Hz d=some x→Hz g=some y→(EL d||EL g)=true→P m l x y:=by
 have f:∀ {j:Int} {x},Hz (.int j)=some x→Float64.isInf (Float64.ofInt j)=false∧x=Float64.ofInt j:=fun {j x} h=>by
  cases e:Float64.isInf (Float64.ofInt j)
  ·rw [Hz,e]at h;refine AB (Ai h) ?_;exact⟨rfl,rfl⟩
  ·rw [Hz,e]at h;injection h
 intro d g m l x y r o c k z
 induction d with
 |none=>injection c
 |bool=>injection c
 |AS a=>
  obtain⟨B,rfl⟩:=r;refine AB (Ai c) ?_
  induction g with
  |none=>injection k
  |bool=>injection k
  |AS b=>obtain⟨u,rfl⟩:=o;refine AB (Ai k) ?_;exact C _ _ _ _
  |int j=>obtain⟨u,rfl⟩:=o;refine AB ((f k).2) ?_;exact D _ _ _ _ (f k).1
 |int i=>
  obtain⟨B,rfl⟩:=r
  induction g with
  |none=>injection k
  |bool=>injection k
  |int j=>injection z
  |AS b=>obtain⟨u,rfl⟩:=o;refine AB (Ai k) ?_;refine AB ((f c).2) ?_;exact v _ _ _ _ (f c).1
theorem dv {f1 f2 g k x y} (c:Dl f1 g) (j:Dl f2 k) (f:Hz f1=some x) (i:Hz f2=some y) (d:(EL f1||EL f2)=true) (h:Float64.isFinite (tlFma x y t).1=true):(Uq p q tk T t).1 (some g) (some k)=Pz p q tk (tlFma x y t):=
 Kv (P:=fun g k x y=>∀ b,tb t=b→Float64.isFinite (tlFma x y b).1=true→(Uq p q tk T t).1 (some g) (some k)=Pz p q tk (tlFma x y b))
  (fun z z z z z e h=>by subst e;exact VZ h) (fun z z z z a z e h=>by subst e;exact Va a h) (fun z z z z a z e h=>by subst e;exact Vb a h) c j f i d t (Py t) h
theorem dw {f1 f2 a g x y} (d:Dl f1 a) (l:Dl f2 g) (i:Hz f1=some x) (j:Hz f2=some y) (f:(EL f1||EL f2)=true) (h:Float64.isFinite (tlFma x y z3).1=true) (k:wpAny (MD w) A (Pz p q tk (tlFma x y z3)) Q E s):wpAny (MD w) A ((SU p q tk 0 false T).1 (some a) (some g)) Q E s:=
 Kv (P:=fun a g x y=>∀ c,tb z3=c→Float64.isFinite (tlFma x y c).1=true→wpAny (MD w) A (Pz p q tk (tlFma x y c)) Q E s→wpAny (MD w) A ((SU p q tk 0 false T).1 (some a) (some g)) Q E s)
  (fun z z z z z e h=>by subst e;exact Vc h) (fun z z z z b z e h=>by subst e;exact Vd b h) (fun z z z z b z e h=>by subst e;exact Ve b h) d l i j f z3 (Py z3) h k
theorem Kw {e k:FV} {t res:Bc} (h:Eu (e::xs) (k::ys) t=some res):∃ x y,Hz e=some x∧Hz k=some y∧(EL e||EL k)=true∧Float64.isFinite (tlFma x y t).1=true∧Eu xs ys (tlFma x y t)=some res:=by
 replace h:((Hz e).bind fun x=>(Hz k).bind fun y=>if(EL e||EL k)=true∧Float64.isFinite (tlFma x y t).1=true then Eu xs ys (tlFma x y t)else none)=some res:=h
 refine AF (Option.bind_eq_some_iff.mp h) fun x a h=>?_;refine AF (Option.bind_eq_some_iff.mp h) fun y b h=>?_;by_cases c:(EL e||EL k)=true∧Float64.isFinite (tlFma x y t).1=true
 ·exact(Hf x y a b c.1 c.2 ((if_pos c).symm.trans h))
 ·exact nomatch (if_neg c).symm.trans h
theorem FE {k:Type} {xs:List k} {a:k} (h:xs[i]? = some a):xs.drop i=a::xs.drop (i+1):=by
 refine Ap (List.getElem?_eq_some_iff.mp h) fun h e=>?_;refine Eq.trans (List.drop_eq_getElem_cons h) ?_;refine AB e ?_;rfl
end
theorem Gf {p q:Value} {I u H D:List Addr} {g1 Z:Option Nat} {C m:Nat→Shared→Prop} {Q:Option Value→Option Value→Shared→Prop}
  (S:KP w A s₀ p xs I u g1 C) (L:KP w A s₀ q ys H D Z m) (R:∀ b∈u,b∉H) (X:∀ b∈D,b∉I) (Y:∀ j,g1=some j→Z≠some j) (l:xs.length=ys.length)
  (O:i≤xs.length) (x:Step w s₀ s) (W:C i s) (F:m i s)
  (kn:i=xs.length→∀ s',Step w s₀ s'→Q none none s')
  (ks:∀ N J,xs[i]? = some N→ys[i]? = some J→∀ P M s',Dl N P→Dl J M→Step w s₀ s'→C (i+1) s'→m (i+1) s'→(∀ b o,b∉u→b∉D→s.heap.get? b=some o→s'.heap.get? b=some o)→Q (some P) (some M) s') :
  wpAny (MD w) A (pyNext p) (fun r s₁=>wpAny (MD w) A (pyNext q) (fun r' y=>Q r r' y) E s₁) E s:=by
 have c:∀ s₁,Wi u g1 s s₁→m i s₁:=fun s₁ k=>L.keep _ _ _ F (k.quiet R (fun j U h=>Y j h U) (L.live _ _ F));have v:xs[i]? = none↔ys[i]? = none:=by rw [List.getElem?_eq_none_iff,List.getElem?_eq_none_iff,l]
 refine S.next i s _ _ x W O (fun K s₁ g k=>?_) fun N G P s₁ r1 g z k=>?_
 ·exact L.next i s₁ _ _ g (c s₁ k) (l▸O) (fun t y a d=>kn (Nat.le_antisymm O (List.getElem?_eq_none_iff.mp K)) y a) fun f hf=>by injection ((v.mp K).symm.trans hf)
 ·refine L.next i s₁ _ _ g (c s₁ k) (l▸O) (fun K=>by injection ((v.mpr K).symm.trans G)) fun J V M y r2 a B d=>?_;exact ks N J G V P M y r1 r2 a (S.keep _ _ _ z (d.quiet X (fun j U h=>Y j U h) (S.live _ _ z))) B fun b o h1 h2 e=>d.heap b o h2 (k.heap b o h1 e)
section
variable {p q:Value} {xs ys:List FV} {Ur SV Us SW:List Addr} {g1 g2:Option Nat} {KQ KR:Nat→Shared→Prop} {Q:Value→Shared→Prop} {E:Value→Shared→Prop} {res:Bc} {tk:Tok}
noncomputable def LF (w:Wd) (A:Around) (s₀:Shared) (p q:Value) (xs ys:List FV) (KQ KR:Nat→Shared→Prop) (Q E:Value→Shared→Prop) (res:Bc) (tk:Tok) (i:Nat):Prop:=∀ t T s,Step w s₀ s→KQ i s→KR i s→s.heap.IsTuple T (Fh t).toArray→Eu (xs.drop i) (ys.drop i) t=some res→
 codeAny (MD w) A (Wj p q tk false 0 false true (.ref T)) (DH Q E) s
theorem Kx {t:Bc} (a:KP w A.in1 s₀ p xs Ur SV g1 KQ) (c:KP w A.in1 s₀ q ys Us SW g2 KR) (x:Step w s₀ s) (y:KQ i s) (k:KR i s) (d:Eu (xs.drop i) (ys.drop i) t=some res) (g:LF w A s₀ p q xs ys KQ KR Q E res tk i) :
  wpAny (MD w) A.in1 (Pz p q tk t) (fun h s'=>match h with
   |Fin.done f=>DH Q E (.ok f) s'
   |Fin.again c'=>c'.quiet=true∧codeAny (MD w) A c' (DH Q E) s') (fun e s'=>DH Q E (.error e) s') s:=
 AD (wpAny_newTuple (AM ⟨plainId_quiet DV _,g t s.heap.objs.size _ (x.trans (Step.push _ _)) (a.keep _ _ _ y (EK (fun b o e=>Br _ e) rfl)) (c.keep _ _ _ k (EK (fun b o e=>Br _ e) rfl)) (Cc _ (BD _ rfl) rfl _ rfl) d⟩) (fit_le rfl))
theorem P0 (f:∀ s,Step w s₀ s→BS w 0 A.in1 s) (J:KP w A.in1 s₀ p xs Ur SV g1 KQ) (K:KP w A.in1 s₀ q ys Us SW g2 KR) (D:∀ b∈SV,b∉Us) (I:∀ b∈SW,b∉Ur) (P:∀ j,g1=some j→g2≠some j) (d:xs.length=ys.length)
  (N:∀ v s',Step w s₀ s'→BZ (.AS (Float64.add (Float64.ofInt 0) (tlToFloat res))) v→Q v s') :
  ∀ k i,xs.length≤i+k→i≤xs.length→LF w A s₀ p q xs ys KQ KR Q E res tk i:=by
 have c:∀ i,i≤xs.length→(i<xs.length→LF w A s₀ p q xs ys KQ KR Q E res tk (i+1))→LF w A s₀ p q xs ys KQ KR Q E res tk i:=fun i z G t T s x u m S g=>by
  refine codeAny_builtin Gd ?_;refine AB (Around.under_plainId DV _) ?_;refine(Uq p q tk T t).2 _ _ _ _ _ S (Gf J K D I P d z x u m (fun F B e=>?_) fun Y W o H Z X B L V e r l n=>?_)
  ·clear m u;subst F;replace g:=List.drop_length▸g;replace g:=d▸g;replace g:=List.drop_length▸g;cases g;refine AD (wpAny_rule (AD (dr (AD (wpAny_holding ?_)))));refine Iu (w:=w) (i:=0) (y:=tlToFloat (tb res)) (Nat.two_pow_pos 1023) A.in1 _ _ _ (.int 0 tk) _ (f _ (e.trans (Step.Bu _))).h (f _ (e.trans (Step.Bu _))).tk ⟨_,rfl⟩ (D6 (f _ e).tk) fun v C=>AM (N v _ ((e.trans (Step.Bu _)).trans (Step.Bu _)) (by replace C:=(Py ..)▸C;exact C))
  ·replace g:=(FE o)▸g;replace g:=(FE H)▸g;refine Ej (Kw g) fun a b R O M U g=>?_;exact Ku (dv L V R O M U) (Kx J K e r l g (G (List.getElem?_eq_some_iff.mp o).1))
 intro k
 induction k with
 |zero=>exact fun i h z=>c i z fun h'=>absurd h' (Nat.not_lt.mpr h)
 |succ k G=>exact fun i h z=>c i z fun h'=>G (i+1) (by refine AB (Nat.succ_add ..) ?_;exact h) h'
theorem FF {A:Around} (z:∀ s,Step w s₀ s→BS w 0 A.in1 s) (l:KP w A.in1 s₀ p xs Ur SV g1 KQ) (r:KP w A.in1 s₀ q ys Us SW g2 KR) (c:∀ b∈SV,b∉Us) (i:∀ b∈SW,b∉Ur) (C:∀ j,g1=some j→g2≠some j) (e:xs.length=ys.length) (res:Bc)
  (y:xs≠[]) {T:Addr} {tk:Tok} (x:Step w s₀ s) (B:KQ 0 s) (m:KR 0 s) (L:s.heap.IsTuple T (Fh z3).toArray) (H:Eu xs ys z3=some res)
  (I:∀ v s',Step w s₀ s'→BZ (.AS (Float64.add (Float64.ofInt 0) (tlToFloat res))) v→Q v s') :
  codeAny (MD w) A (Wj p q tk true 0 false false (.ref T)) (DH Q E) s:=by
 refine codeAny_builtin Gd ?_;refine AB (Around.under_plainId DV _) ?_;refine(SU p q tk 0 false T).2 _ _ _ _ _ L (Gf l r c i C e (Nat.zero_le _) x B m (fun h=>absurd (List.length_eq_zero_iff.mp h.symm) y) fun R O o u S P D F N d f g t=>?_);have k:Eu (xs.drop 0) (ys.drop 0) z3=some res:=H;replace k:=(FE o)▸k;replace k:=(FE u)▸k;refine Ej (Kw k) fun a b K J G M k=>?_;exact dw F N K J G M (Kx l r d f g k (P0 z l r c i C e I _ 1 (Nat.le_add_left _ _) (List.length_pos_iff.mpr y)))
end
section
variable {p q:Value} {xs ys:List Int} {Ur SV Us SW:List Addr} {g1 g2:Option Nat} {KQ KR:Nat→Shared→Prop} {Q:Value→Shared→Prop} {E:Value→Shared→Prop} {tk:Tok} {T:Addr}
theorem Vf {a b m:Int} (x:a.natAbs≤2^20) (y:b.natAbs≤2^20) (d:i≤1000) (g:m.natAbs≤i*2^40):(m+a*b).natAbs≤(i+1)*2^40∧(decide (-2^63≤a)&&decide (a≤maxSsize)&&(decide (-2^63≤b)&&decide (b≤maxSsize))&&(decide (-2^63≤a*b)&&decide (a*b≤maxSsize))&&(decide (-2^63≤m+a*b)&&decide (m+a*b≤maxSsize)))=true:=by
 have f:∀ {c:Int},c.natAbs≤2^62→(decide (-2^63≤c)&&decide (c≤maxSsize))=true:=fun {c} h=>by
  refine AB (Bool.and_eq_true ..) ?_;refine AB decide_eq_true_eq ?_;refine AB decide_eq_true_eq ?_;refine AB (show maxSsize=9223372036854775807 by decide) ?_;exact Zh h
 have k:(a*b).natAbs≤2^40:=by refine AB (Int.natAbs_mul ..) ?_;exact AJ (Nat.mul_le_mul x y) (by constructor)
 have e:(m+a*b).natAbs≤(i+1)*2^40:=by refine AB (Nat.succ_mul ..) ?_;exact AJ (Int.natAbs_add_le _ _) (Nat.add_le_add g k)
 refine⟨e,?_⟩
 refine AB (f (AJ x (by decide))) ?_;rewrite [f (AJ y (by decide))];rewrite [f (AJ k (by decide))];rewrite [f (AJ e (AJ (Nat.mul_le_mul_right _ (Nat.succ_le_succ d)) (by decide)))];rfl
noncomputable def LI (w:Wd) (A:Around) (s₀:Shared) (p q:Value) (xs ys:List Int) (KQ KR:Nat→Shared→Prop) (Q E:Value→Shared→Prop) (tk:Tok) (T:Addr) (i:Nat):Prop:=∀ m u s,Step w s₀ s→KQ i s→KR i s→s.heap.IsTuple T (Fh z3).toArray→(u=false→m=0)→m.natAbs≤i*2^40→
 (∀ v s',Step w s₀ s'→BZ (.int (m+Pw (xs.drop i) (ys.drop i))) v→Q v s')→codeAny (MD w) A (Wj p q tk true m u false (.ref T)) (DH Q E) s
theorem P1 (G:∀ s,Step w s₀ s→BS w 0 A.in1 s) (V:KP w A.in1 s₀ p (A5 xs) Ur SV g1 KQ) (Y:KP w A.in1 s₀ q (A5 ys) Us SW g2 KR) (J:∀ b∈SV,b∉Us) (N:∀ b∈SW,b∉Ur) (X:∀ j,g1=some j→g2≠some j) (I:xs.length=ys.length)
  (U:∀ a∈xs,a.natAbs≤2^20) (S:∀ b∈ys,b.natAbs≤2^20) (hz:xs.length≤1000) (r:∀ b∈SV++SW,b≠T) :
  ∀ k i,xs.length≤i+k→i≤xs.length→LI w A s₀ p q xs ys KQ KR Q E tk T i:=by
 have hl:(A5 xs).length=xs.length:=List.length_map ..;have g:∀ i,i≤xs.length→(i<xs.length→LI w A s₀ p q xs ys KQ KR Q E tk T (i+1))→LI w A s₀ p q xs ys KQ KR Q E tk T i:=fun i l M m u s x H B P hu hm c=>by
  refine codeAny_builtin Gd ?_;refine AB (Around.under_plainId DV _) ?_;refine(SU p q tk m u T).2 _ _ _ _ _ P (Gf V Y J N X (by refine Eq.trans hl ?_;refine Eq.trans I ?_;exact(List.length_map ..).symm) (hl▸l) x H B (fun d y e=>?_) fun f1 f2 C F v1 v2 y R r2 e D z kp=>?_)
  ·replace d:=hl▸d;clear B H;subst d;replace c:=List.drop_length▸c;have c:∀ v s',Step w s₀ s'→BZ (.int m) v→Q v s':=fun v s' K h=>c v s' K (by refine AB (show m+Pw [] (ys.drop xs.length)=m from Int.add_zero m) ?_;exact h)
   induction u with
   |false=>
    obtain rfl:=hu rfl;exact AD (wpAny_rule (AD (wpAny_rule (AM (c _ y e ⟨_,rfl⟩)))))
   |true=>
    refine AD (wpAny_rule (AD (wpAny_mkInt (AD (wpAny_holding (En (w:=w) (i:=0) (j:=m) A.in1 _ _ _ (.int 0 tk) _ (G _ (e.trans (Step.Bu _))).h (G _ (e.trans (Step.Bu _))).tk ⟨_,rfl⟩ ⟨_,rfl⟩ fun v o=>?_))))));rw [Int.zero_add]at o;exact AD (wpAny_rule (AM (c v _ ((e.trans (Step.Bu _)).trans (Step.Bu _)) o)))
  ·rw [A5,List.getElem?_map,Option.map_eq_some_iff]at C F;obtain⟨a,L,rfl⟩:=C;obtain⟨b,f,rfl⟩:=F;obtain⟨t1,rfl⟩:=R;obtain⟨t2,rfl⟩:=r2;have lt:=(List.getElem?_eq_some_iff.mp L).1;have h:=Vf (U a (List.mem_of_getElem? L)) (S b (List.mem_of_getElem? f)) (AJ l hz) hm;obtain⟨O,W,Z⟩:=P;refine Ku (if_pos h.2) (AD (AM (AM ⟨plainId_quiet DV _,M lt (m+a*b) true y e D z (AQ O (kp T O (fun f=>r T (List.mem_append_left _ f) rfl) (fun f=>r T (List.mem_append_right _ f) rfl) W) Z) (fun h=>by injection h) h.1 fun v s' K o=>c v s' K ?_⟩)));refine AB (FE L) ?_;refine AB (FE f) ?_;rw [Int.add_assoc]at o;exact o
 intro k
 induction k with
 |zero=>exact fun i h l=>g i l fun h'=>absurd h' (Nat.not_lt.mpr h)
 |succ k M=>exact fun i h l=>g i l fun h'=>M (i+1) (by refine AB (Nat.succ_add ..) ?_;exact h) h'
end
end
section
variable {w:Wd} {n:Nat} {A:Around} {s s₀:Shared}
theorem F7 {p q:Value}
  (h:wpAny (MD w) A.in1 (pyIter p) (fun c s₁=>wpAny (MD w) A.in1 (pyIter q) (fun a k=>∀ T tk x,(∀ b o,k.heap.get? b=some o→x.heap.get? b=some o)→x.gens=k.gens→x.os=k.os→k.toks≤x.toks→x.heap.IsTuple T (Fh z3).toArray→k.heap.get? T=none→
   codeAny (MD w) A (Wj c a tk true 0 false false (.ref T)) (DH Q E) x) E s₁) E s) :
  wpAny (MD w) A (call (.builtin "math.sumprod") [p,q]) Q E s:=by
 refine call_function_tree SQ Pr Pt (SR _ _) ?_;refine AD (m:=mathSome "sumprod" 2 2 _) ?_;refine AM ?_;refine AD (wpAny_mono h (fun c s₁ g=>AD (wpAny_holding (wpAny_mono g (fun a k y=>?_) fun z z e=>e))) fun z z e=>e);refine AD (wpAny_mkInt ?_);refine AD (wpAny_newTuple ?_ (fit_le rfl));exact AM ⟨plainId_quiet DV _,y _ _ _ (fun b o e=>Br _ e) rfl rfl (Nat.le_succ _) (Cc _ (BD _ rfl) rfl _ rfl) (fresh_at _)⟩
theorem H0 (k:BS w (n+1) A s):∀ s',Step w s s'→BS w 0 A.in1 s':=fun s' x=>⟨k.h,by have:=k.d;show A.depth+0≤900;exact Nat.le_of_add_right_le this,by have:=k.u;show A.units+1+20*0≤9000;exact ZU this,AF (k.f) fun l a b=>⟨l,a,b.step x⟩,Nat.lt_of_lt_of_le k.tk x.tk⟩
theorem Ky {b:Addr} {j vs:List Value} (G:GH w s.heap) (C:A.handled=none) (la:s.heap.IsList a j.toArray) (v:s.heap.IsList b vs.toArray) (L:Al xs j) (M:Al ys vs)
  (k:∀ (I J T:Addr) (tk:Tok) (h:Shared),KP w A.in1 s (.ref I) xs [I,a] [I] none (fun i s=>s.heap.IsListIter I a i∧s.heap.IsList a j.toArray)→KP w A.in1 s (.ref J) ys [J,b] [J] none (fun i s=>s.heap.IsListIter J b i∧s.heap.IsList b vs.toArray)→
   (∀ c∈[I],c∉[J,b])→(∀ c∈[J],c∉[I,a])→(∀ c∈[I]++[J],c≠T)→Step w s h→(h.heap.IsListIter I a 0∧h.heap.IsList a j.toArray)→(h.heap.IsListIter J b 0∧h.heap.IsList b vs.toArray)→h.heap.IsTuple T (Fh z3).toArray→
   codeAny (MD w) A (Wj (.ref I) (.ref J) tk true 0 false false (.ref T)) (DH Q E) h) :
  wpAny (MD w) A (call (.builtin "math.sumprod") [.ref a,.ref b]) Q E s:=by
 refine F7 (wpAny_pyIter_list la (wpAny_pyIter_list (v.push _) fun T tk h B N K m H d=>?_));have l:∀ o,(s.heap.push o).objs.size=s.heap.objs.size+1:=fun o=>Heap.size_push ..;have F:a<s.heap.objs.size:=by refine AF (la) fun o e n=>?_;exact Heap.lt_size e
 have D:b<s.heap.objs.size:=by refine AF (v) fun o e n=>?_;exact Heap.lt_size e
 have q:s.heap.get? (s.heap.push { cls:=.type "list_iterator",data:=.fields #[.ref a,.int 0 0] }).objs.size=none:=Heap.get?_none_of_le (by refine AB (l ..) ?_;exact Nat.le_succ _);have kk:∀ c o,s.heap.get? c=some o→h.heap.get? c=some o:=fun c o e=>B c o (Br _ (Br _ e));have p:h.heap.IsList a j.toArray:=by refine AF (la) fun o e r=>?_;exact(AQ o (kk _ _ e) r)
 have z:h.heap.IsList b vs.toArray:=by refine AF (v) fun o e r=>?_;exact(AQ o (kk _ _ e) r)
 have t:h.heap.IsListIter (s.heap.push { cls:=.type "list_iterator",data:=.fields #[.ref a,.int 0 0] }).objs.size b 0:=(Aj _ (B _ _ (BD _ rfl)) rfl rfl)
 refine k _ _ T tk h (Hy C G (fresh_at s.heap) (Nat.ne_of_lt F) L) (Hy C G q (by refine AB (l ..) ?_;exact Nat.ne_of_lt (Nat.lt_succ_of_lt D)) M) ?_ ?_ ?_ (Step.D8 kk K N m) ⟨((Aj _ (B _ _ (Br _ (BD _ rfl))) rfl rfl)),p⟩ ⟨t,z⟩ H
 ·intro c y;refine AB (List.mem_singleton.mp y) ?_;refine AB (l ..) ?_;simp only [List.mem_cons,List.not_mem_nil,or_false,not_or];exact⟨Nat.ne_of_lt (Nat.lt_succ_self _),Nat.ne_of_gt D⟩
 ·intro c y;refine AB (List.mem_singleton.mp y) ?_;refine AB (l ..) ?_;simp only [List.mem_cons,List.not_mem_nil,or_false,not_or];exact⟨Nat.ne_of_gt (Nat.lt_succ_self _),Nat.ne_of_gt (Nat.lt_succ_of_lt F)⟩
 ·intro c y e;clear H;subst e;simp only [List.cons_append,List.nil_append,List.mem_cons,List.not_mem_nil,or_false]at y;refine Or.elim y (fun g=>?_) (fun f=>?_)
  ·obtain rfl:=g;have u:((s.heap.push { cls:=.type "list_iterator",data:=.fields #[.ref a,.int 0 0] }).push { cls:=.type "list_iterator",data:=.fields #[.ref b,.int 0 0] }).get? s.heap.objs.size=some _:=Br _ (BD _ rfl);have x:((s.heap.push { cls:=.type "list_iterator",data:=.fields #[.ref a,.int 0 0] }).push { cls:=.type "list_iterator",data:=.fields #[.ref b,.int 0 0] }).get? s.heap.objs.size=none:=d;injection (u.symm.trans x)
  ·obtain rfl:=f;have u:((s.heap.push { cls:=.type "list_iterator",data:=.fields #[.ref a,.int 0 0] }).push { cls:=.type "list_iterator",data:=.fields #[.ref b,.int 0 0] }).get? (s.heap.push { cls:=.type "list_iterator",data:=.fields #[.ref a,.int 0 0] }).objs.size=some _:=BD _ rfl;have x:((s.heap.push { cls:=.type "list_iterator",data:=.fields #[.ref a,.int 0 0] }).push { cls:=.type "list_iterator",data:=.fields #[.ref b,.int 0 0] }).get? (s.heap.push { cls:=.type "list_iterator",data:=.fields #[.ref a,.int 0 0] }).objs.size=none:=d;injection (u.symm.trans x)
theorem OD {xs ys:List Int} (d:xs.length=ys.length) (B:∀ a∈xs,a.natAbs≤2^20) (z:∀ b∈ys,b.natAbs≤2^20) (O:xs.length≤1000) :
  Hl w (n+1) (.builtin "math.sumprod") [.list (A5 xs),.list (A5 ys)] [] [] (.fv (.int (Pw xs ys))):=fun A s Q E vs ks G o r D k=>by
 refine AW (Bi r) fun v u c q N=>?_;clear r;obtain rfl:=c;obtain rfl:=A6 D;refine AW (q) fun a R y la F=>?_;obtain rfl:=y;refine AW (N) fun b P g M K=>?_;obtain rfl:=g;refine Ky G o.h la M F K fun I J T tk e C L i m f x l j H=>?_;refine P1 (H0 o) C L i m (fun Z h=>by cases h) d B z O f _ 0 (Nat.le_of_eq (Nat.zero_add _).symm) (Nat.zero_le _) 0 false e x l j H (fun Z=>rfl) (by constructor) fun v s' t p=>?_;exact k v s' t (by simpa using p:BZ (.int (Pw xs ys)) v)
theorem Gh {res:Bc} (c:xs.length=ys.length) (d:xs≠[]) (B:Eu xs ys z3=some res) :
  Hl w (n+1) (.builtin "math.sumprod") [.list xs,.list ys] [] [] (.fv (.AS (Float64.add (Float64.ofInt 0) (tlToFloat res)))):=fun A s Q E vs ks G o r D k=>by
 refine AW (Bi r) fun v u y t N=>?_;clear r;obtain rfl:=y;obtain rfl:=A6 D;refine AW (t) fun a P g la F=>?_;obtain rfl:=g;refine AW (N) fun b O e M K=>?_;obtain rfl:=e;exact Ky G o.h la M F K fun I J T tk m C L f l p x j i H=>FF (H0 o) C L f l (fun Z h=>by injection h) c res d x j i H B fun v s' z q=>k v s' z q
theorem I7 {m:List Value} (T:A.handled=none) (G:GH w s₀.heap) (B:s₀.heap.get? I=none) (M:a≠I) (P:Al xs m) :
  KP w A s₀ (.ref I) xs [I,a] [I] none (fun i s=>s.heap.IsTupleIter I a i∧s.heap.IsTuple a m.toArray) where
 next:=fun i s Q E x H Z X ks=>by
  refine Bt (H) fun L hl=>?_;have C:m.length=xs.length:=P.length;have y:∀ p∈EI,p.1≠I:=fun p z e=>by
   refine AF (G.tabs p z) fun Y F n=>?_;rw [e,B]at F;injection F
  have R:∀ b∈[I],∀ o,s.heap.get? b=some o→HI o:=fun b k o e=>by
   replace e:=(List.mem_singleton.mp k)▸e;refine AY (L) fun o' F c d=>?_;refine AB (B6 e F) ?_;exact BX d fun q t=>by exact Ne.symm (not_eq_of_beq_eq_false rfl)
  have f0:∀ b∈[I],s₀.heap.get? b=none:=fun b k=>by refine AB (List.mem_singleton.mp k) ?_;exact B
  by_cases u:i<xs.length
  ·obtain⟨v,O⟩:∃ v,m[i]? = some v:=⟨m[i],by exact List.getElem?_eq_getElem _⟩
   refine AF (P.get O) fun f J U=>?_;refine wpAny_pyNext_tuple_item L hl (x:=v) (by simpa using O) fun h' N D=>?_;refine ks f J v _ U.weak (x.many (t:=s.toks) (wr:=[I]) G (fun b o k e=>(D.2 b (List.ne_of_not_mem_cons k)).trans e) f0 R) ⟨N,?_⟩ ⟨fun b o k e=>(D.2 b (List.ne_of_not_mem_cons k)).trans e,fun j n=>.inl rfl,fun p z o e=>(D.2 _ (y p z)).trans e⟩;refine AF (hl) fun o e r=>?_;exact(AQ o ((D.2 a M).trans e) r)
  ·have:m[i]? = none:=by simp [C];exact Nat.le_of_not_lt u
   refine wpAny_pyNext_tuple_end T L hl (by simpa using this) fun h' K=>?_;exact X (by simp;exact Nat.le_of_not_lt u) _ (x.many (t:=s.toks) (wr:=[I]) G (fun b o k e=>K b o (List.ne_of_not_mem_cons k) e) f0 R) ⟨fun b o k e=>K b o (List.ne_of_not_mem_cons k) e,fun j n=>.inl rfl,fun p z o e=>K _ o (y p z) e⟩
 keep:=fun i s s' H q=>by
  refine Bt (H) fun g l=>?_;refine AF (g) fun o e r=>?_;refine AF (l) fun V S W=>?_;exact⟨(AQ o (q.heap _ D1 _ e) r),(AQ V (q.heap _ (by simp) _ S) W)⟩
 live:=fun i s H j h=>by injection h
theorem OE {b:Addr} {z vs:List Value} {res:Bc} (G:GH w s.heap) (p:BS w (n+1) A s) (la:s.heap.IsTuple a z.toArray) (q:s.heap.IsTuple b vs.toArray) (H:Al xs z) (J:Al ys vs)
  (y:xs.length=ys.length) (d:xs≠[]) (F:Eu xs ys z3=some res)
  (k:∀ v s',Step w s s'→BZ (.AS (Float64.add (Float64.ofInt 0) (tlToFloat res))) v→Q v s') :
  wpAny (MD w) A (call (.builtin "math.sumprod") [.ref a,.ref b]) Q E s:=by
 refine F7 (wpAny_pyIter_tuple la (wpAny_pyIter_tuple (q.push _) fun T tk x u L D f I K=>?_));have g:∀ o,(s.heap.push o).objs.size=s.heap.objs.size+1:=fun o=>Heap.size_push ..;have C:a<s.heap.objs.size:=by refine AF (la) fun o e Z=>?_;exact Heap.lt_size e
 have B:b<s.heap.objs.size:=by refine AF (q) fun o e Z=>?_;exact Heap.lt_size e
 have l:s.heap.get? (s.heap.push { cls:=.type "tuple_iterator",data:=.fields #[.ref a,.int 0 0] }).objs.size=none:=Heap.get?_none_of_le (by refine AB (g ..) ?_;exact Nat.le_succ _);have kk:∀ c o,s.heap.get? c=some o→x.heap.get? c=some o:=fun c o e=>u c o (Br _ (Br _ e));have j:x.heap.IsTuple a z.toArray:=by refine AF (la) fun o e r=>?_;exact(AQ o (kk _ _ e) r)
 have t:x.heap.IsTuple b vs.toArray:=by refine AF (q) fun o e r=>?_;exact(AQ o (kk _ _ e) r)
 have m:x.heap.IsTupleIter (s.heap.push { cls:=.type "tuple_iterator",data:=.fields #[.ref a,.int 0 0] }).objs.size b 0:=(Aj _ (u _ _ (BD _ rfl)) rfl rfl)
 refine FF (H0 p) (I7 p.h G (fresh_at s.heap) (Nat.ne_of_lt C) H) (I7 p.h G l (by refine AB (g ..) ?_;exact Nat.ne_of_lt (Nat.lt_succ_of_lt B)) J) ?_ ?_ (fun Z h=>by cases h) y res d (Step.D8 kk D L f) ⟨((Aj _ (u _ _ (Br _ (BD _ rfl))) rfl rfl)),j⟩ ⟨m,t⟩ I F k
 ·intro c i;refine AB (List.mem_singleton.mp i) ?_;refine AB (g ..) ?_;simp only [List.mem_cons,List.not_mem_nil,or_false,not_or];exact⟨Nat.ne_of_lt (Nat.lt_succ_self _),Nat.ne_of_gt B⟩
 ·intro c i;refine AB (List.mem_singleton.mp i) ?_;refine AB (g ..) ?_;simp only [List.mem_cons,List.not_mem_nil,or_false,not_or];exact⟨Nat.ne_of_gt (Nat.lt_succ_self _),Nat.ne_of_gt (Nat.lt_succ_of_lt C)⟩
end
section
variable {w:Wd} {names:BC} {n:Nat} {pe:PE}
theorem F8 : ∀ {vs:List Value},Bs h (fs.map .fv) vs→Al fs vs:=by
 induction fs with
 |nil=>
  intro vs r;induction vs with
  |nil=>trivial
  |cons=>exact r.elim
 |cons f fs k=>
  intro vs r;induction vs with
  |nil=>exact r.elim
  |cons=>exact⟨r.1,k r.2⟩
theorem OF {j m:Pos} {q u:Nat} {i l:List Expr} {res:Bc} (g:GV "sumprod" (.builtin "math.sumprod")) (G:names.lookup "sumprod" = some .globalImplicit) (F:Lx w names (n+1) pe i (xs.map .fv)) (D:Lx w names (n+1) pe l (ys.map .fv))
  (a:xs.length=ys.length) (p:xs≠[]) (r:xs.length≤1000) (B:Eu xs ys z3=some res) :
  Ev w names (n+1) pe (.Call (.Name "sumprod" np) [.Tuple i q j,.Tuple l u m] [] pos) (.fv (.AS (Float64.add (Float64.ofInt 0) (tlToFloat res)))):=fun A env s Q E C k=>by
 refine wpAny_Call_ofName (BF C g G ?_);refine callWith_builtin_kwB rfl rfl (Ae rfl rfl ?_);show wpAny _ A (spliced ((false,eval (.Tuple i q j) env)::(false,eval (.Tuple l u m) env)::[])) _ _ s;refine spliced_cons (wpAny_Tuple (F A env s j _ E C fun vs s₁ o y=>⟨by refine AB ((F8 y).length) ?_;exact D3 r,?_⟩));have h:Step w s { s₁ with heap:=s₁.heap.push { cls:=.type "tuple",data:=.seq vs.toArray } }:=o.trans (Step.push s₁ _);refine spliced_cons (wpAny_Tuple (D A env _ m _ E (C.step h) fun t f d c=>⟨by refine AB ((F8 c).length) ?_;exact D3 (a▸r),spliced_nil ?_⟩));refine AM ?_;have e:=h.trans (d.trans (Step.push f { cls:=.type "tuple",data:=.seq t.toArray }));have b:=C.step e;have H:({ s₁ with heap:=s₁.heap.push { cls:=.type "tuple",data:=.seq vs.toArray } } : Shared).heap.get? s₁.heap.objs.size=some { cls:=.type "tuple",data:=.seq vs.toArray }:=BD _ rfl;refine OE (n:=n) b.gh b.ok (Cc _ ((d.trans (Step.push f { cls:=.type "tuple",data:=.seq t.toArray })).get (C.step h).gh H (Ab rfl) (AG rfl)) rfl _ rfl) (Cc _ (BD _ rfl) rfl _ rfl) (F8 y) (F8 c) a p B fun v s' x z=>k v s' (e.trans x) z
end
theorem H3 {wr:List Addr} (x:Step w s₀ s) (G:GH w s₀.heap) (k:∀ b o,b∉wr→s.heap.get? b=some o→s'.heap.get? b=some o) (f:∀ b∈wr,s₀.heap.get? b=none)
  (H:KO wr s.heap) (r:s'.os=s.os) (O:AllBare s.gens→AllBare s'.gens) (j:s.toks≤s'.toks):Step w s₀ s' where
 tk:=AJ x.tk j
 keep:=fun b a n d y=>k b a (fun m=>by injection ((f b m).symm.trans y)) (x.keep b a n d y)
 EZ:=fun b a y d=>Ap (x.EZ b a y d) fun K i=>⟨K,k b _ (fun m=>by injection ((f b m).symm.trans y)) i⟩
 grow:=fun P J g y=>Ap (x.grow P J g y) fun m i=>⟨m,k P _ (fun m=>by injection ((f P m).symm.trans y)) i⟩
 tabs:=fun h p v=>by
  refine AY (x.tabs h p v) fun g E t c=>?_;refine AF (h p v) fun L F Z=>?_;refine AF (H p v) fun z e u=>?_;replace e:=E▸e;have l:g=z:=by cases e;rfl
  clear e;subst l;refine(Aj g (k _ _ (fun m=>by injection ((f _ m).symm.trans F)) E) t (fun pos D C=>?_))
  refine Ax (c pos D C) fun q oc vs tk B M I N=>?_;exact(Ba q oc vs tk B (k q _ (fun m=>u pos D C q m B) M) I N)
 os:=r.trans x.os
 gens:=fun h=>O (x.gens h)
section
variable {w:Wd} {n:Nat} {A:Around} {s s₀:Shared}
theorem MC {prog:Program} {W:World} {g:Nat} {fp wr:List Addr} {p:Nat→Bool} {h:Nat} {F:Nat→Value→Prop} {j:Nat} {s:Shared} (l:GenAt prog W A a g C fp wr p h F j s) (m:cStatics∈fp)
  (k:∀ b∈a::C::fp,∀ o,s.heap.get? b=some o→s'.heap.get? b=some o) (t:s'.gens[g]? = s.gens[g]?):GenAt prog W A a g C fp wr p h F j s':=by
 refine(B2 (DZ (l.1) fun o nm u v r=>⟨o,nm,u,k a List.mem_cons_self o v,r⟩) ?_ ?_)
 ·refine AF (l.2.1) fun z i d=>?_;exact(AQ z (i.at' fun o e=>k cStatics (List.mem_cons_of_mem _ (List.mem_cons_of_mem _ m)) o e) d)
 ·refine AF (l.2.2) fun gs y f=>?_;exact(AQ gs (t.trans y) (fun c x=>f c fun b q o e=>x b q o (k b (List.mem_cons_of_mem _ q) o e)))
theorem Kz (h:Nat):passing (fun z=>true) h 0=List.range h:=by unfold passing;exact filter_allG (List.drop 0 (List.range h))
theorem SX {g:Nat} {fp wr:List Addr} {zs:List FV} {F:Nat→Value→Prop} (Z:A.handled=none) (hd:A.depth<1000) (G:GH w s₀.heap) (U:a≠C) (O:a∉fp) (c:∀ b∈wr,b∈fp) (B:cStatics∈fp) (S:cStatics≠C) (L:cStatics∉wr)
  (X:∀ b∈C::wr,s₀.heap.get? b=none) (hF:∀ i v f,F i v→zs[i]? = some f→Dl f v) :
  KP w A s₀ (.ref a) zs (a::C::fp) (C::wr) (some g) (fun i s=>GenAt PR w.w A a g C fp wr (fun n=>true) zs.length F i s∧KO (C::wr) s.heap) where
 next:=fun i s Q E x y Y kn ks=>by
  obtain⟨y,D⟩:=y;have W:=WalksS.genexpQ (prog:=PR) (w:=w.w) (A:=A) Z a g C fp wr (fun n=>true) zs.length F U O c hd B S L;have z:∀ p∈EI,p.1∉C::wr:=fun p T m=>by
   obtain⟨ps,e',_⟩:=G.tabs p T;injection ((X _ m).symm.trans e')
  replace W:=(Kz ..)▸W;replace W:=List.length_range▸W;have V:∀ s',Moved (C::wr) (GenOnlyQ g) s s'→Step w s₀ s'∧Wi (C::wr) (some g) s s':=fun s' m=>by
   refine⟨H3 x G m.heap X D m.os (fun h=>GenOnlyQ.bare m.gens h) m.toks,m.heap,fun j M=>.inl ?_,fun p T o e=>m.heap _ o (z p T) e⟩
   refine Or.elim (m.gens) (fun h=>?_) (fun u=>?_)
   ·refine AB h ?_;rfl
   ·obtain⟨⟨_,h⟩,_⟩:=u;exact h j fun e=>M (Option.some_inj.mpr (id (Eq.symm e)))
  by_cases k:i<zs.length
  ·refine W.item i s _ _ k y fun v s' hP I m=>?_;obtain⟨H,o'⟩:=V s' m;obtain⟨K,d,J⟩:=hP;have l:K=i:=by
    rw [List.getElem?_range k]at d;exact(Ai d).symm
   clear d;subst l;have R:KO (C::wr) s'.heap:=D.kept o'.tab;refine ks zs[K] (List.getElem?_eq_getElem k) v s' (hF K v _ J (List.getElem?_eq_getElem k)) H ⟨I,R⟩ o'
  ·have N:i=zs.length:=Nat.le_antisymm Y (Nat.not_lt.mp k);clear k ks;subst N;refine W.done s _ _ y fun s' m=>?_;obtain⟨H,o'⟩:=V s' m;exact kn (List.getElem?_eq_none_iff.mpr Y) s' H o'
 keep:=fun i s s' y q=>by
  obtain⟨y,D⟩:=y;refine⟨MC y B (fun b t o e=>q.heap b t o e) (q.gens g rfl),q.Z4 _ (fun b t=>?_) D⟩
  refine Or.elim (List.mem_cons.mp t) (fun r=>?_) (fun t=>?_)
  ·refine AB r ?_;simp
  ·exact List.mem_cons_of_mem _ (List.mem_cons_of_mem _ (c b t))
 live:=fun i s y j M=>by
  refine Ar (Ai M) ?_;obtain⟨gs,P,_⟩:=y.1.2.2;exact⟨gs,P⟩
end
structure Made (w:Wd) (A:Around) (s s':Shared) (zs:List FV) (a C I ax cc:Addr) (F:Nat→Value→Prop):Prop where
 step:Step w s s'
 exact:∀ b o,b∉Cd→s.heap.get? b=some o→s'.heap.get? b=some o
 gens:∀ j,j<s.gens.size→s'.gens[j]? = s.gens[j]?
 Z4:∀ wr,(∀ b∈wr,b<s.heap.objs.size)→KO wr s.heap→KO wr s'.heap
 lo:s.heap.objs.size≤I∧I<C∧C<a∧a<s'.heap.objs.size
 old:ax<s.heap.objs.size∧cc<s.heap.objs.size∧cStatics<s.heap.objs.size
 cd:∃ m,s'.heap.Ns C m
 ii:s'.heap.IsListIter I ax 0
 cQ:∀ s₀,GH w s₀.heap→s₀.heap.get? C=none→s₀.heap.get? I=none→KP w A.in1 s₀ (.ref a) zs (a::C::[I,ax,cStatics,cc]) (C::[I]) (some s.gens.size)
  (fun i r=>GenAt PR w.w A.in1 a s.gens.size C [I,ax,cStatics,cc] [I] (fun _=>true) zs.length F i r∧KO (C::[I]) r.heap)
theorem Made.XM {zs:List FV} {k h:Addr} {F:Nat→Value→Prop} (m:Made w A s s' zs a C I k h F) (s₀:Shared) (G:GH w s₀.heap) (x:Step w s₀ s) :
  KP w A.in1 s₀ (.ref a) zs (a::C::[I,k,cStatics,h]) (C::[I]) (some s.gens.size) (fun i r=>GenAt PR w.w A.in1 a s.gens.size C [I,k,cStatics,h] [I] (fun z=>true) zs.length F i r∧KO (C::[I]) r.heap):=
 m.cQ s₀ G (x.gone G (Heap.get?_none_of_le (Nat.le_of_lt (Nat.lt_of_le_of_lt m.lo.1 m.lo.2.1)))) (x.gone G (Heap.get?_none_of_le m.lo.1))
section
variable {w:Wd} {names:BC} {n:Nat} {A:Around} {env:Env} {s:Shared} {pe:PE}
theorem P2 {wr:List Addr} (G:GH w h) (k:∀ b∈wr,∀ o vs q t,h.get? b=some o→o.data = .fields vs→vs[1]?≠some (.str q t)):KO wr h:=fun p f=>by
 refine AY (G.tabs p f) fun g e t c=>?_;refine⟨g,e,fun pos i a b j x=>?_⟩
 refine Ax (c pos i a) fun r oc vs tk y m d l=>?_;obtain rfl:=(PySem.Value.ref.inj ((x.symm.trans y)))
 exact k _ j oc vs _ _ m d l
theorem P4 {c P:Addr} (G:GH w s.heap) (M:Maker w names c P q) (D:env.code = .ref c)
  (k:∀ code s',Step w s s'→(∀ b o,b∉Cd→s.heap.get? b=some o→s'.heap.get? b=some o)→s'.gens=s.gens→s.heap.objs.size≤s'.heap.objs.size→(∀ wr,(∀ b∈wr,b<s.heap.objs.size)→KO wr s.heap→KO wr s'.heap)→Q code s') :
  wpAny (MD w) A (genexprCode env pos q sc) Q E s:=by
 have F:P∈Cd:=by refine Ar Cn ?_;exact List.mem_map.mpr (AQ _ M.mem rfl)
 refine AY (G.tabs _ M.mem) fun v e j O=>?_;have e:s.heap.get? P=some (tabObj v):=e;have hd:=M.hd _ G;cases hf:codeAmong pos v.toList with
 |some r=>exact wpAny_genexprCode_hit D (hd.code e j) hf (k r s (Step.refl w s) (fun Z Z Z e=>e) rfl (Nat.le_refl _) fun Z Z t=>t)
 |none=>
  refine Ak (wpAny_genexprCodeX D (hd.code e j) (hd.tab e) hf fun N h' tk x u l Z a d Z J=>?_);refine k _ _ (Step.grown F (fun p C h=>Kq C M.mem h) e j x a d.2) (fun b o n e=>x b o (by rintro rfl;exact n F) e) rfl (AJ u (Nat.le_of_lt l)) fun wr z L p C=>?_;refine AF (L p C) fun f g I=>?_
  by_cases h:p.1=P
  ·replace g:=h▸g;replace g:=e.symm.trans g;have:v=f:=by cases g;rfl
   subst this;refine(AQ _ (by refine AB h ?_;exact d.2) (fun i r B b H=>?_))
   refine Or.elim (I4 _ j (by simpa using B)) (fun K=>?_) (fun y=>?_)
   ·exact I i r K b H
   ·refine AB y ?_;intro m;have:N=b:=by refine AB (PySem.Value.ref.inj m) ?_;rfl
    exact absurd (z b H) (Nat.not_lt.mpr (this▸u))
  ·exact(AQ f (x _ _ h g) I)
theorem P7 {c P:Addr} {H:Str} {zs:List FV} (C:Cx w names n A env s pe) (hn:1≤n) (M:Maker w names c P q) (hq:names.ql++"<genexpr>" = q)
  (hit:pe H=some (.list xs)) (Yo:sc.isCoroutine=false) (Z5:Ci names sc.names pe=true) (XN:∀ y∈sc.names,y.2≠.cell) (h0:sc.names.lookup (".0" : Str)=some NameKind.local) (hx:sc.names.lookup xv=some .local) (hy:sc.names.lookup yv=some .free)
  (d0:names.lookup yv=some .cell∨names.lookup yv=some .free) (d6:pe yv=some (.fv (.AS yb))) (hk:sc.kind = .function) (hlen:xs.length=zs.length) (d9:∀ (i:Nat) (f:FV),xs[i]? = some f→∃ g:FV,zs[i]? = some g∧SF w .Sub f (.AS yb) g)
  (XO:∀ x,genFold (.Name H pi) env x=pure x) (d1:(H==("__debug__" : Str))=false) (d2:(H==("__classdict__" : Str))=false) (d3:(xv==("__debug__" : Str))=false) (d4:(yv==("__debug__" : Str))=false) (d5:(yv==("__classdict__" : Str))=false)
  (k:∀ a C I G O F s',Made w A s s' zs a C I G O F→(GenAt PR w.w A.in1 a s.gens.size C [I,G,cStatics,O] [I] (fun _=>true) zs.length F 0 s'∧KO (C::[I]) s'.heap)→(∃ vs,s.heap.IsList G vs)→(∃ v,s.heap.IsCell O v)→Q (.ref a) s') :
  wpAny (MD w) A (eval (.GeneratorExp (.BinOp (.Name xv p1) .Sub (.Name yv p2) p3) [⟨.Name xv px,.Name H pi,[],0⟩] sc pos) env) Q E s:=by
 obtain⟨cl,XP,VY,Z6⟩:=DA (scope:=sc) (env:=env) fun y hy=>let⟨c,_,i,_⟩:=C5 C Z5 hy;⟨c,i⟩;obtain⟨gZ,eA,eB⟩:=C.vars H _ hit;obtain⟨G,us,rfl,hl,hf⟩:=eB;obtain⟨O,vy,eE,z,eF⟩:=F6 C d0 d6;have XQ:cl.lookup yv=some O:=by refine Eq.trans (Z6 yv (mem_of_lookup hy)) ?_;exact eE
 have Yp:G<s.heap.objs.size:=by obtain⟨o,e,_⟩:=hl;exact Heap.lt_size e
 have N:O<s.heap.objs.size:=z.lt;have J:cStatics<s.heap.objs.size:=by obtain⟨mc,V,_⟩:=C.gh.nolimit;exact V.lt
 refine wpAny_GeneratorExp_make Yo XP XN h0 hk (by have:=C.ok.d;show A.depth<1000;exact Nu this) (Fe C.eo.kd eA ?_ d1 d2) XO;refine wpAny_pyIter_list hl ?_;have Y:Step w s { s with heap:=s.heap.push { cls:=.type "list_iterator",data:=.fields #[.ref G,.int 0 0] } }:=Step.push s _;have L:=Y.gh C.gh;refine⟨L.nolimit,?_⟩
 have Z3:env.qual++"<genexpr>" = q:=by refine AB C.eo.ql ?_;exact hq
 refine AB Z3 ?_;refine P4 L M (C.eo.cd.trans M.cd) fun code l T K S Vg Z=>?_;have R:=T.gh L;obtain⟨mg,bm,ob,hg,eG,XR,eH,Z7,XS,XT⟩:=R.bmain;refine AB C.eo.gl ?_;refine wpAny_builtinsFor hg eG XR eH Z7 XS XT ?_;intro h' V cR;generalize Z8:s.heap.push { cls:=.type "list_iterator",data:=.fields #[.ref G,.int 0 0] } = H2 at Y L T K Vg Z;have eJ:H2.get? s.heap.objs.size=some { cls:=.type "list_iterator",data:=.fields #[.ref G,.int 0 0] }:=by refine Ar Z8 ?_;exact BD _ rfl
 have k2:∀ b o,s.heap.get? b=some o→H2.get? b=some o:=fun b o e=>by refine Ar Z8 ?_;exact Br _ e
 have X:h'.objs.size=l.heap.objs.size+1:=by refine Eq.trans cR.1 ?_;refine Eq.trans (Heap.size_push ..) ?_;rfl
 have ta:∀ b,b∈Cd→b<s.heap.objs.size:=fun b u=>by
  rw [←Cn]at u;obtain⟨p,hp,rfl⟩:=List.mem_map.mp u;obtain⟨ps,e,_⟩:=C.gh.tabs p hp;exact Heap.lt_size e
 have cS:l.heap.get? s.heap.objs.size=some { cls:=.type "list_iterator",data:=.fields #[.ref G,.int 0 0] }:=K _ _ (fun h=>Nat.lt_irrefl _ (ta _ h)) eJ;have Yq:∀ b o,l.heap.get? b=some o→h'.get? b=some o:=fun b o e=>(fun b o u e=>cR.extBut b o u (Br _ e)) b o (Nat.ne_of_lt (Heap.lt_size e)) e;generalize Yr:({ cls:=.type "generator",data:=.fields #[.int l.gens.size 0,.str "<genexpr>" (l.toks+1),.str q (l.toks+1+1)] } : Obj)=go;have Z9:go.isFreed=false:=by refine Ar Yr ?_;rfl
 have k4:∀ b o,h'.get? b=some o→(h'.push go).get? b=some o:=fun b o e=>Br _ e;have D:s.heap.objs.size<l.heap.objs.size:=Heap.lt_size cS;have eK:∀ (gs:GenState) (tk:Nat),gs.bare=true→l.toks≤tk→Step w s { l with gens:=l.gens.push gs,toks:=tk,heap:=h'.push go }:=fun gs tk u htk=>
  (Y.trans T).trans (H3 (wr:=[]) (Step.refl w l) R (fun b o _ e=>k4 b o (Yq b o e)) (fun b u=>by cases u) (P2 R fun b u=>by cases u) rfl (fun h=>h.push u) htk)
 have U:∀ b o,b∉Cd→s.heap.get? b=some o→(h'.push go).get? b=some o:=fun b o n e=>k4 b o (Yq b o (K b o n (k2 b o e)));generalize XU:(GenState.fresh (.compStart (.GeneratorExp (.BinOp (.Name xv p1) .Sub (.Name yv p2) p3) [⟨.Name xv px,.Name H pi,[],0⟩] sc pos) 0 (.ref s.heap.objs.size) .none (genEnv sc cl l.heap.objs.size code builtinsNs env)))=XW;have XX:XW.bare=true:=by refine Ar XU ?_;rfl
 have st:=eK XW (l.toks+1+1+1) XX (Nat.le_of_lt (Nat.lt_succ_of_le (Nat.le_add_right l.toks 2)));have G':=st.gh C.gh;have XY:l.gens.size=s.gens.size:=congrArg _ S;have eM:s.heap.objs.size≠l.heap.objs.size:=Nat.ne_of_lt D;have Z':h'.get? s.heap.objs.size=some { cls:=.type "list_iterator",data:=.fields #[.ref G,.int 0 0] }:=Yq _ _ cS;have XZ:KO (l.heap.objs.size::[s.heap.objs.size]) (h'.push go):=P2 (w:=w) G' fun b u o vs q t e hd h1=>by
  refine Or.elim (List.mem_cons.mp u) (fun Xa=>?_) (fun u=>?_)
  ·obtain rfl:=Xa;obtain⟨o',es,ep,e',d',_⟩:=V;obtain rfl:=(B6 (k4 _ _ e') e);injection (d'.symm.trans hd)
  ·replace e:=(List.mem_singleton.mp u)▸e;replace e:=(k4 _ _ Z').symm.trans e;obtain rfl:=(Ai e);obtain rfl:=(PySem.Data.fields.inj hd)
   cases h1
 refine k h'.objs.size l.heap.objs.size s.heap.objs.size G O (fun i y=>∃ g:FV,zs[i]? = some g∧Dl g y) _ ⟨st,U,fun j hj=>?_,fun wr eP tv=>?_,⟨Nat.le_refl _,D,?_,?_⟩,⟨Yp,N,J⟩,⟨_,V.push _⟩,⟨_,k4 _ _ Z',rfl,rfl⟩,fun s₀ aA aB Vh=>?_⟩ ⟨?_,XZ⟩ ⟨_,hl⟩ ⟨_,z⟩
 ·show(l.gens.push XW)[j]? = s.gens[j]?;refine AB S ?_;rw [Array.getElem?_push,if_neg (Nat.ne_of_lt hj)]
 ·have t3:=Z wr (fun b u=>by show b<H2.objs.size;refine AB (by rw [←Z8,Heap.size_push]:H2.objs.size=s.heap.objs.size+1) ?_;exact Nat.lt_succ_of_lt (eP b u)) (tv.kept fun p hp o e=>k2 _ o e);exact t3.kept fun p hp o e=>k4 _ o (Yq _ o e)
 ·refine AB X ?_;exact Nat.lt_succ_self _
 ·show h'.objs.size<(h'.push go).objs.size;refine AB (Heap.size_push ..) ?_;exact Nat.lt_succ_self _
 ·refine SX (A:=A.in1) (C:=l.heap.objs.size) (fp:=[s.heap.objs.size,G,cStatics,O]) (wr:=[s.heap.objs.size]) C.ok.h (Nu C.ok.d) aA ?_ ?_ (fun b u=>by refine AB (List.mem_singleton.mp u) ?_;exact List.mem_cons_self) (List.mem_cons_of_mem _ (List.mem_cons_of_mem _ List.mem_cons_self)) ?_ ?_ (fun b u=>?_) (fun i v f hF hz=>?_)
  ·refine AB X ?_;exact Nat.ne_of_gt (Nat.lt_succ_self _)
  ·simp only [List.mem_cons,List.not_mem_nil,or_false,not_or];refine AB X ?_;exact(EX (Nat.ne_of_gt (Nat.lt_succ_of_lt D)) (Nat.ne_of_gt (Nat.lt_succ_of_lt (Nat.lt_trans Yp D))) (Nat.ne_of_gt (Nat.lt_succ_of_lt (Nat.lt_trans J D))) (Nat.ne_of_gt (Nat.lt_succ_of_lt (Nat.lt_trans N D))))
  ·exact Nat.ne_of_lt (Nat.lt_trans J D)
  ·simp only [List.mem_cons,List.not_mem_nil,or_false];exact Nat.ne_of_lt J
  ·refine Or.elim (List.mem_cons.mp u) (fun Xb=>?_) (fun u=>?_)
   ·refine AB Xb ?_;exact aB
   ·refine AB (List.mem_singleton.mp u) ?_;exact Vh
  ·obtain⟨g,eQ,eR⟩:=hF;refine Ar (B6 eQ hz) ?_;exact eR
 ·have cT:∀ b o,s.heap.get? b=some o→b∉Cd→(h'.push go).get? b=some o:=fun b o e n=>U b o n e;have aC:G∉Cd:=by obtain⟨o,e,c,m,d⟩:=hl;exact C.gh.off e (Ab d)
  have aD:O∉Cd:=by obtain⟨o,e,d⟩:=z;exact C.gh.off e (Em d)
  have W:∀ A':Around,A'.handled=none→Walks PR w.w A' s.heap.objs.size [s.heap.objs.size,G] [s.heap.objs.size] zs.length (fun i v=>us.toArray[i]? = some v) (fun i h=>h.IsListIter s.heap.objs.size G i∧h.IsList G us.toArray):=fun A' aE=>by
   have:=Walks.list (prog:=PR) (w:=w.w) (A:=A') aE s.heap.objs.size G (Nat.ne_of_lt Yp) us.toArray;rwa [(by rw [List.size_toArray,hf.length,hlen]:us.toArray.size=zs.length)]at this
  refine GenAt.freshD (A:=A.in1) (elt:=.BinOp (.Name xv p1) .Sub (.Name yv p2) p3) (iter:=.Name H pi) (px:=px) (ifs:=[]) (scope:=sc) (pos:=pos) (cenv:=genEnv sc cl l.heap.objs.size code builtinsNs env) (x:=xv) C.ok.h (fun A' aE=>(W A' aE).mono_fp fun b u=>?_) (fun _=>true) _ hx (by simp [genEnv,hk]) Yo ?_ ?_ (CY _ _ _ (BD _ Z9) (congrArg _ Yr.symm) (by rw [←Yr,XY]) (congrArg _ Yr.symm)) ?_ ?_ (V.push _) G'.nolimit
  ·simp only [List.mem_cons,List.not_mem_nil,or_false]at u ⊢;rcases u with rfl | rfl<;>simp
  ·simp only [List.mem_cons,List.not_mem_nil,or_false,not_or];show l.heap.objs.size≠_∧l.heap.objs.size≠_∧l.heap.objs.size≠_∧l.heap.objs.size≠_;exact(EX (Nat.ne_of_gt D) (Nat.ne_of_gt (Nat.lt_trans Yp D)) (Nat.ne_of_gt (Nat.lt_trans J D)) (Nat.ne_of_gt (Nat.lt_trans N D)))
  ·refine⟨fun A' E' i v B m₂ hA _ _ hP cU hm cV=>wpAny_tests_nil (PM rfl B.heap B.toks rfl (fun _ _ e=>e)),fun A' E' i v B m₂ hA _ _ hP _ cU hm cV=>?_⟩
   obtain⟨f,eT,eU⟩:=hf.get (show us[i]? = some v by simpa using hP);obtain⟨g,eV,ho⟩:=d9 i f eT;have Xc:B.heap.IsCell O (some vy):=by
    obtain⟨o,e,d⟩:=z;exact(AQ o (cV O (by simp) (by simp only [List.mem_cons,List.not_mem_nil,or_false];exact Nat.ne_of_lt N) o (cT _ _ e aD)) d)
   refine wpAny_BinOp (wpAny_Name (wpAny_loadName_local hk hx cU hm ?_) d3);refine wpAny_Name (wpAny_loadName_free hk hy XQ Xc ?_ d5) d4;exact ho A' B _ E' v vy hA eU eF fun v' eW=>(PM ⟨g,eV,eW⟩ B.heap (B.toks+1) rfl (fun _ _ e=>e))
  ·refine AB XU ?_;show(l.gens.push XW)[s.gens.size]? = some XW;refine Ar XY ?_;exact Array.getElem?_push_size ..
  ·refine⟨(Aj _ (k4 _ _ Z') rfl rfl),?_⟩
   obtain⟨o,e,r⟩:=hl;exact(AQ o (cT _ _ e aC) r)
end
noncomputable def B5 (xb:UInt64):FV→FV
 |.int i=>.AS (Float64.sub (Float64.ofInt i) xb)
 |.AS x=>.AS (Float64.sub x xb)
 |f=>f
noncomputable def F9:FV→Prop
 |.int i=>i.natAbs<2^53
 |.AS _=>True
 |_=>False
theorem ME {k:UInt64} (h:F9 f):D2 w .Sub f (.AS k) (B5 k f):=by
 induction f with
 |none=>exact h.elim
 |bool=>exact h.elim
 |int i=>exact PZ (Nat.lt_trans h (Nat.pow_lt_pow_right (by decide) (by decide)))
 |AS x=>exact Kg
theorem SY (h:F9 f):SF w .Sub f (.AS y) (B5 y f):=by
 induction f with
 |none=>exact h.elim
 |bool=>exact h.elim
 |int i=>exact fun A s Q E c g b e k h'=>SE e k fun t u=>PyProof.Rows.sub_if_fits (Nat.lt_trans h (Nat.pow_lt_pow_right (by decide) (by decide))) (h' _ ⟨_,rfl⟩)
 |AS x=>exact fun A s Q E c g b e k h'=>Nx e k fun t u=>PyProof.Rows.sub_float (h' _ ⟨_,rfl⟩)
theorem Jm {k:UInt64} (h:∀ f∈xs,F9 f):∀ (i:Nat) (f:FV),xs[i]? = some f→∃ g:FV,(xs.map (B5 k))[i]? = some g∧SF w .Sub f (.AS k) g:=
 fun i f e=>⟨B5 k f,by rw [List.getElem?_map,e];rfl,SY (h f (List.mem_of_getElem? e))⟩
section
variable {w:Wd} {names:BC} {n:Nat} {A:Around} {s s':Shared} {zs:List FV} {a C I ax cc:Addr} {F:Nat→Value→Prop}
theorem Made.below (m:Made w A s s' zs a C I ax cc F):∀ b∈a::C::[I,ax,cStatics,cc],b<s'.heap.objs.size:=by
 refine FX (m.lo) fun k e x h=>?_;have y:=Nat.lt_trans x h;have g:=Nat.lt_trans e y;have lt:∀ {c},c<s.heap.objs.size→c<s'.heap.objs.size:=fun d=>Nat.lt_trans (Nat.lt_of_lt_of_le d k) g;exact A0 h (A0 y (A0 g (A0 (lt m.old.1) (A0 (lt m.old.2.2) (A0 (lt m.old.2.1) Dh)))))
theorem Made.new (m:Made w A s s' zs a C I ax cc F):∀ b∈[C,I],s.heap.objs.size≤b∧∀ o,s'.heap.get? b=some o→(∀ xs n,o.data≠.seq xs n)∧∀ v,o.data≠.cell v:=by
 refine FX (m.lo) fun k x f d=>?_;refine D5 (m.cd) fun z z z z i g z=>?_;refine AY (m.ii) fun z c z y=>?_;exact A0 ⟨Nat.le_of_lt (Nat.lt_of_le_of_lt k x),fun o e=>by refine Ar (Ai (i.symm.trans e)) ?_;exact⟨fun z z h=>(by injection g.symm.trans h),fun z h=>(by injection g.symm.trans h)⟩⟩
  (A0 ⟨k,fun o e=>by refine Ar (Ai (c.symm.trans e)) ?_;exact⟨fun z z h=>(by injection y.symm.trans h),fun z h=>(by injection y.symm.trans h)⟩⟩ Dh)
theorem MF {f:Shared} {t:List FV} {a' M i:Addr} {K:Nat→Value→Prop} (G:GH w s.heap) (m:Made w A s s' zs a C I ax cc F) (hl:∃ vs,s.heap.IsList ax vs) (B:∃ v,s.heap.IsCell cc v)
  (N:GenAt PR w.w A.in1 a s.gens.size C [I,ax,cStatics,cc] [I] (fun n=>true) zs.length F 0 s') (m':Made w A s' f t a' J M i l K):Quiet (a::C::[I,ax,cStatics,cc]) (some s.gens.size) s' f:=by
 have q:s.gens.size<s'.gens.size:=by
  refine PK (N) fun n n gs u n=>?_;exact(Array.getElem?_eq_some_iff.mp u).1
 refine FX (m.lo) fun x c r H=>?_;have k:∀ b,s.heap.objs.size≤b→b∉Cd:=fun b y h=>by
  rw [←Cn]at h;refine AF (List.mem_map.mp h) fun p L g=>?_;clear h;obtain rfl:=g;refine AF (G.tabs p L) fun O e n=>?_;exact Nat.lt_irrefl _ (Nat.lt_of_lt_of_le (Heap.lt_size e) y)
 exact⟨fun b y o e=>m'.exact b o ((A0 (k _ (Nat.le_of_lt (Nat.lt_of_le_of_lt x (Nat.lt_trans c r)))) (A0 (k _ (Nat.le_of_lt (Nat.lt_of_le_of_lt x c))) (A0 (k _ x) (A0 (JV (hl) fun n n e n n d=>G.off e (Ab d)) (A0 (by decide) (A0 (CD (B) fun n n e d=>G.off e (Em d)) Dh))))):∀ b∈a::C::[I,ax,cStatics,cc],b∉Cd) b y) e,fun j E=>by refine Ar (Ai E) ?_;exact m'.gens _ q,fun wr z D=>m'.Z4 wr (fun b y=>m.below b (z b y)) D⟩
structure K1 (w:Wd) (names:BC) (pe:PE) (c P:Addr) (q xv yv Wk:Str) (sc:Scope) (xs zs:List FV) (yb:UInt64):Prop where
 eX:Maker w names c P q
 ql:names.ql++"<genexpr>" = q
 it:pe Wk=some (.list xs)
 co:sc.isCoroutine=false
 eY:Ci names sc.names pe=true
 cell:∀ y∈sc.names,y.2≠.cell
 l0:sc.names.lookup (".0" : Str)=some NameKind.local
 lx:sc.names.lookup xv=some .local
 ly:sc.names.lookup yv=some .free
 ny:names.lookup yv=some .cell∨names.lookup yv=some .free
 py:pe yv=some (.fv (.AS yb))
 kd:sc.kind = .function
 len:xs.length=zs.length
 op:∀ (i:Nat) (f:FV),xs[i]? = some f→∃ g:FV,zs[i]? = some g∧SF w .Sub f (.AS yb) g
 d1:(Wk==("__debug__" : Str))=false
 d2:(Wk==("__classdict__" : Str))=false
 d3:(xv==("__debug__" : Str))=false
 d4:(yv==("__debug__" : Str))=false
 d5:(yv==("__classdict__" : Str))=false
theorem K1.make {c P:Addr} {x b h:Str} {f d:Pos} {zs:List FV} (g:K1 w names pe c P q x b h sc xs zs yb) (C:Cx w names n A env s pe) (i:1≤n)
  (k:∀ a C I y e F s',Made w A s s' zs a C I y e F→(GenAt PR w.w A.in1 a s.gens.size C [I,y,cStatics,e] [I] (fun z=>true) zs.length F 0 s'∧KO (C::[I]) s'.heap)→(∃ vs,s.heap.IsList y vs)→(∃ v,s.heap.IsCell e v)→Q (.ref a) s') :
  wpAny (MD w) A (eval (.GeneratorExp (.BinOp (.Name x p1) .Sub (.Name b p2) d) [⟨.Name x px,.Name h f,[],0⟩] sc pos) env) Q E s:=
 P7 C i g.eX g.ql g.it g.co g.eY g.cell g.l0 g.lx g.ly g.ny g.py g.kd g.len g.op (fun z=>rfl) g.d1 g.d2 g.d3 g.d4 g.d5 k
theorem Fi {A:Around} {s:Shared} {a:Addr} {g:Nat} (h:s.heap.IsGen a g) (q:Q (.ref a) s):wpAny (MD w) A (pyIter (.ref a)) Q E s:=wpAny_pyIter_gen h q
theorem MG {c P:Addr} {q1 J p D l:Str} {pg eZ X ea Y W:Pos} {G:Scope} {zs xs2 m:List FV} {yb2:UInt64} {res:Bc}
  (gv:GV "sumprod" (.builtin "math.sumprod")) (hk:names.lookup "sumprod" = some .globalImplicit) (g1:K1 w names pe c P q1 xv yv J sc xs zs yb) (g2:K1 w names pe c P q1 p D l G xs2 m yb2)
  (B:zs.length=m.length) (M:zs≠[]) (hs:Eu zs m z3=some res) :
  Ev w names (n+1) pe (.Call (.Name "sumprod" np) [.GeneratorExp (.BinOp (.Name xv p1) .Sub (.Name yv p2) p3) [⟨.Name xv px,.Name J pi,[],0⟩] sc pg,
   .GeneratorExp (.BinOp (.Name p X) .Sub (.Name D ea) Y) [⟨.Name p O,.Name l eZ,[],0⟩] G W] [] pos) (.fv (.AS (Float64.add (Float64.ofInt 0) (tlToFloat res)))):=fun A env s Q E C k=>by
 refine wpAny_Call_ofName (BF C gv hk ?_);refine callWith_builtin_kwB rfl rfl (Ae rfl rfl ?_);refine spliced_cons (g1.make C (Nat.le_add_left _ _) fun a1 C1 I1 V N F1 s₁ g t l1 k1=>?_);refine spliced_cons (g2.make (C.step g.step) (Nat.le_add_left _ _) fun a2 C2 I2 gc gd F2 y z H l2 k2=>spliced_nil (AM ?_));have i1:=g.XM s C.gh (Step.refl w s);have i2:=z.XM s C.gh g.step;have i:=i1.keep 0 s₁ y t (MF C.gh g l1 k1 t.1 z);refine F7 (Fi i.1.1 (Fi H.1.1 fun T tk f kp Z ho L hT eb=>?_));have R:s.gens.size<s₁.gens.size:=by
  refine PK (t.1) fun a a gs a0 a=>?_;exact(Array.getElem?_eq_some_iff.mp a0).1
 refine FX (z.lo) fun U K S gm=>?_;refine FF (H0 C.ok) i1 i2 (fun b u r=>?_) (fun b u r=>Nat.lt_irrefl _ (Nat.lt_of_lt_of_le (g.below b r) (z.new b u).1)) (fun j hj h=>by
  replace h:=h.trans hj.symm;exact Nat.ne_of_lt R (Ai h).symm) B res M ((g.step.trans z.step).trans (Step.D8 kp ho Z L)) (i1.keep 0 y f i (EK kp Z)) (i2.keep 0 y f H (EK kp Z)) hT hs fun v s' x hv=>k v s' x hv
 have hn:=g.new b u;have q:=Nat.lt_of_lt_of_le ((fun b u=>g.below b (List.mem_cons_of_mem _ (A0 (P:=fun b=>b∈[C1,I1,V,cStatics,N]) (.head _) (A0 (.tail _ (.head _)) Dh) b u))) b u) U;refine A0 (P:=fun c=>c≠b) (Nat.ne_of_gt (Nat.lt_trans q (Nat.lt_trans K S))) (A0 (Nat.ne_of_gt (Nat.lt_trans q K)) (A0 (Nat.ne_of_gt q) (A0 ?_ (A0 (Nat.ne_of_lt (Nat.lt_of_lt_of_le g.old.2.2 hn.1)) (A0 ?_ Dh))))) b r rfl
 ·refine JV (l2) fun vs o e a a d=>?_;exact fun h=>(hn.2 o (h▸e)).1 _ _ d
 ·refine CD (k2) fun v o e d=>?_;exact fun h=>(hn.2 o (h▸e)).2 _ d
end
section
variable {w:Wd} {names:BC} {oc:List Str} {n:Nat} {own:Option Str} {pe:PE}
theorem C6 {d:Str} : N1 w names oc n own pe (.Expr (.Constant (.str d) kk p) pos) own pe:=fun A env s₀ s Q E F k=>
 wpAny_Expr_any (Constant_str (k _ (F.step (Step.Bu s)))) F.cx.eo.quiet
end
theorem DI {l:List Str} {x:Str} (h:l.elem x=true):x∈l:=List.elem_iff.mp h
noncomputable def fdOf (o:Obj):FuncData:=match o.data with
 |.func fd=>fd
 |_=>default
noncomputable abbrev NM (o:Obj):BC:=Iy (fdOf o)
noncomputable abbrev OC (o:Obj):List Str:=Ct (fdOf o).scope.names
theorem H4:GV "len" (.builtin "len"):=Bp (fun z=>rfl) rfl (by decide)
theorem Sa:GV "fsum" (.builtin "math.fsum"):=BE fun z=>rfl
theorem I8:GV "sumprod" (.builtin "math.sumprod"):=BE fun z=>rfl
theorem Jn:GV "sum" (.builtin "sum"):=Bp (fun z=>rfl) rfl (by decide)
theorem P8 : Maker w (NM G3) 342 338 "covariance.<locals>.<genexpr>":=
 ⟨rfl,fun h G=>codeHd_of_K G.kin (by kernel_rfl),by exact We⟩
theorem Jo : Maker w (NM Ip) 449 447 "law.<locals>.<lambda>":=
 ⟨rfl,fun h G=>codeHd_of_K G.kin (by kernel_rfl),by exact D1⟩
theorem Sb : Maker w (NM Io) 439 435 "_law_line.<locals>.<lambda>":=
 ⟨rfl,fun h G=>codeHd_of_K G.kin (by kernel_rfl),by exact R0⟩
theorem Vi : Maker w (NM Im) 425 423 "linear_regression.<locals>.<genexpr>":=
 ⟨rfl,fun h G=>codeHd_of_K G.kin (by kernel_rfl),by exact Ym⟩
noncomputable def DM (xs:List FV):Option UInt64:=(Et xs []).map fun ps=>Float64.div (Float64.fsumEnd ps) (Float64.ofInt xs.length)
noncomputable def Vj (xs ys:List FV):Option UInt64:=match DM xs,DM ys with
 |some xb,some yb=>(Eu (xs.map (B5 xb)) (ys.map (B5 yb)) z3).map fun t=>Float64.div (Float64.add (Float64.ofInt 0) (tlToFloat t)) (Float64.ofInt ((xs.length:Int)-1))
 |_,_=>none
section
variable {w:Wd} {names:BC} {n:Nat} {pe:PE}
theorem EM {x:Str} (y:names.lookup "len" = some .globalImplicit) (h:pe x=some (.list xs)) (e:xs.length≤1000) (hd:autoParam ((x==("__debug__" : Str))=false) B8) (k:autoParam ((x==("__classdict__" : Str))=false) B8) :
  Ev w names n pe (.Call (.Name "len" np) [.Name x g] [] pos) (.fv (.int xs.length)):=BG H4 y rfl (nm:=[]) rfl (AE (AA h hd k) AK) Ad (L5 e)
theorem DQ {x:Str} {y:Pos} {qs:List UInt64} (e:names.lookup "fsum" = some .globalImplicit) (h:pe x=some (.list xs)) (g:Et xs []=some qs) (hd:autoParam ((x==("__debug__" : Str))=false) Dy) (k:autoParam ((x==("__classdict__" : Str))=false) Dy) :
  Ev w names n pe (.Call (.Name "fsum" np) [.Name x y] [] pos) (.fv (.AS (Float64.fsumEnd qs))):=BG Sa e rfl (nm:=[]) rfl (AE (AA h hd k) AK) Ad (SS g)
end
set_option tactic.hygienic true in
set_option maxHeartbeats 4000000 in
theorem Vk {r:UInt64} (hl:xs.length=ys.length) (x:2≤xs.length) (g:xs.length≤1000) (d:∀ f∈xs,F9 f) (m:∀ f∈ys,F9 f) (y:Vj xs ys=some r) :
  Dm w (n+2) (.ref 343) [.list xs,.list ys] [] [] (.ret (.fv (.AS r))):=by
 unfold Vj at y;split at y
 case h_2=>injection y
 rename_i xb yb e k;simp only [DM,Option.map_eq_some_iff]at e k y;obtain⟨px,a,e⟩:=e;obtain⟨py,b,k⟩:=k;obtain⟨res,s,y⟩:=y;refine Jk (o:=G3) (fd:=fdOf G3) (body:=Ag (BM 20)) (bs:=[("x",.list xs),("y",.list ys)]) rfl rfl rfl rfl (fun vs ks h q j=>?_) (fun h G=>(Ba 342 _ _ _ rfl (G.kin 342 PF rfl) rfl rfl)) (fun p l=>?_) ?_ rfl rfl rfl rfl rfl rfl
 ·obtain⟨v,u,rfl,i,t⟩:=Bi q;refine AB (A6 j) ?_;exact⟨[("x",v),("y",u)],fun S=>rfl,rfl,i,t,trivial⟩
 ·exact locs (by rfl) p l
 ·refine AN C6 ?_;refine AN (AL (EM rfl rfl g) (.inl rfl)) ?_;refine BW (An (BU (EM rfl rfl (hl▸g)) (AA rfl) Hj) (bne_eq_false_iff_eq.mpr (congrArg Nat.cast (id (Eq.symm hl))))) ?_;refine BW (An (BU (AA rfl) (AV _ _ _) Hk) (by simp;exact ZE x)) ?_;refine AN (AL (pv:=.fv (.AS xb)) (Cw (AI (DQ rfl rfl a) (AA rfl) (DD (Kb x) (CZ (Hd g)))) (by refine Ar e ?_;rfl)) (.inr ⟨DI rfl,rfl⟩)) ?_;refine AN (AL (pv:=.fv (.AS yb)) (Cw (AI (DQ rfl rfl b) (AA rfl) (DD (Kb x) (CZ (Hd g)))) (by refine Ar k ?_;refine AB hl ?_;rfl)) (.inr ⟨DI rfl,rfl⟩)) ?_;refine AN (AL (MG (c:=342) (P:=338) (q1:="covariance.<locals>.<genexpr>") (yb:=xb) (yb2:=yb) (xs:=xs) (xs2:=ys) I8 rfl ?_ ?_ ?_ ?_ s) (.inl rfl)) ?_
  ·exact⟨P8,by kernel_rfl,rfl,rfl,rfl,by decide,rfl,rfl,rfl,.inl rfl,rfl,rfl,by exact Eq.symm (List.length_map (B5 xb)),Jm d,by decide,by decide,by decide,by decide,by decide⟩
  ·exact⟨P8,by kernel_rfl,rfl,rfl,rfl,by decide,rfl,rfl,rfl,.inl rfl,rfl,rfl,by exact Eq.symm (List.length_map (B5 yb)),Jm m,by decide,by decide,by decide,by decide,by decide⟩
  ·simp [hl]
  ·intro h;have:=congrArg List.length h;simp at this;replace x:=this▸x;exact Nat.not_succ_le_zero 1 x
  ·refine Pg (CA (AI (AA rfl) (AI (AA rfl) (AV _ _ _) CL) (DD (VJ x) (CZ (Ws x g))))) ?_;refine Ar y ?_;rfl
section
variable {w:Wd} {names:BC} {n:Nat} {pe:PE}
noncomputable def Mt:PV→Bool
 |.fv .none=>true
 |_=>false
noncomputable def Jp:PV→Bool
 |.raw _=>false
 |_=>true
theorem P9 (r:BA s.heap pv v) (c:Jp pv=true) (h:Q (.bool (Mt pv)) s) :
  wpAny (MD w) A (compareOp .Is v .none) Q E s:=by
 induction pv with
 |raw=>injection c
 |list=>refine CD (r) fun a vs x z=>?_;obtain rfl:=x;exact PyProof.Rows.is_ref_none h
 |BN=>refine CD (r) fun a vs y z=>?_;obtain rfl:=y;exact PyProof.Rows.is_ref_none h
 |line=>refine Fu (r) fun a o t u n b z=>?_;obtain rfl:=b;exact PyProof.Rows.is_ref_none h
 |str=>refine Ap (r) fun t e=>?_;obtain rfl:=e;exact PyProof.Rows.is_str_none h
 |fv f=>clear c;induction f with
  |none=>obtain rfl:=r;exact PyProof.Rows.is_none_none h
  |bool=>obtain rfl:=r;exact PyProof.Rows.is_bool_none h
  |int=>refine Ap (r) fun t g=>?_;obtain rfl:=g;exact PyProof.Rows.is_int_none h
  |AS=>refine Ap (r) fun t k=>?_;obtain rfl:=k;exact PyProof.Rows.is_float_none h
theorem K2 (r:BA s.heap pv v) (c:Jp pv=true) (h:Q (.bool (!Mt pv)) s) :
  wpAny (MD w) A (compareOp .IsNot v .none) Q E s:=by
 induction pv with
 |raw=>injection c
 |list=>refine CD (r) fun a vs g z=>?_;obtain rfl:=g;exact PyProof.Rows.isnot_ref_none h
 |BN=>refine CD (r) fun a vs b z=>?_;obtain rfl:=b;exact PyProof.Rows.isnot_ref_none h
 |line=>refine Fu (r) fun a o t u n x z=>?_;obtain rfl:=x;exact PyProof.Rows.isnot_ref_none h
 |str=>refine Ap (r) fun t y=>?_;obtain rfl:=y;exact PyProof.Rows.isnot_str_none h
 |fv f=>clear c;induction f with
  |none=>obtain rfl:=r;exact PyProof.Rows.isnot_none_none h
  |bool=>obtain rfl:=r;exact PyProof.Rows.isnot_bool_none h
  |int=>refine Ap (r) fun t k=>?_;obtain rfl:=k;exact PyProof.Rows.isnot_int_none h
  |AS=>refine Ap (r) fun t e=>?_;obtain rfl:=e;exact PyProof.Rows.isnot_float_none h
theorem C7 {l:Expr} (hl:Ev w names n pe l pv) (x:autoParam (Jp pv=true) Dy) :
  Tr w names n pe (.Compare l [.Is] [.Constant .none kk np] pos) (Mt pv):=
 fun A env s Q E C h=>wpAny_isTrue_Compare1 (hl A env s _ E C fun y s₁ k e=>wpAny_Constant_none (P9 e x (wpAny_truthy_bool (h _ k)))) (by with_unfolding_all rfl)
theorem GB {l:Expr} (hl:Ev w names n pe l pv) (x:autoParam (Jp pv=true) Dy) :
  Tr w names n pe (.Compare l [.IsNot] [.Constant .none kk np] pos) (!Mt pv):=
 fun A env s Q E C h=>wpAny_isTrue_Compare1 (hl A env s _ E C fun y s₁ k e=>wpAny_Constant_none (K2 e x (wpAny_truthy_bool (h _ k)))) (by with_unfolding_all rfl)
theorem FG {x:Str} (g:GV x v) (k:names.lookup x=some .globalImplicit) (hd:autoParam ((x==("__debug__" : Str))=false) B8):Ev w names n pe (.Name x pos) (.raw v):=
 fun A env s Q E C h=>BF C g k (h _ _ (Step.refl w s) rfl) hd
theorem Mu:GV "list" (.type "list"):=Bp (fun z=>rfl) rfl (by decide)
theorem Ew:GV "tuple" (.type "tuple"):=Bp (fun z=>rfl) rfl (by decide)
theorem Vl:GV "isinstance" (.builtin "isinstance"):=Bp (fun z=>rfl) rfl (by decide)
theorem Vm:isSubtype (.type "list") (.type "list")=pure true:=by refine Eq.trans (isSubtype_type ..) ?_;kernel_rfl
theorem sub_lt:isSubtype (.type "list") (.type "tuple")=pure false:=by refine Eq.trans (isSubtype_type ..) ?_;kernel_rfl
theorem Vn {x:Str} {z u t:Pos} (F:pe x=some (.list xs)) (m:names.lookup "isinstance" = some .globalImplicit) (r:names.lookup "list" = some .globalImplicit)
  (p:names.lookup "tuple" = some .globalImplicit) (hd:autoParam ((x==("__debug__" : Str))=false) Dy) (D:autoParam ((x==("__classdict__" : Str))=false) Dy) :
  Tr w names n pe (.Call (.Name "isinstance" np) [.Name x z,.Tuple [.Name "list" u,.Name "tuple" t] kk p2] [] pos) true:=fun A env s Q E C k=>by
 refine wpAny_isTrue_value ?_ rfl;refine wpAny_Call_ofName (BF C Vl m ?_);refine callWith_builtin_kwB rfl rfl (Ae rfl rfl ?_);show wpAny _ A (spliced ((false,eval (.Name x z) env)::(false,eval (.Tuple [.Name "list" u,.Name "tuple" t] kk p2) env)::[])) _ _ s;refine spliced_cons (AA F hd D A env s _ E C fun v s₁ h g=>?_);refine spliced_cons (wpAny_Tuple ((AE (FG Mu r) (AE (FG Ew p) AK)) A env s₁ p2 _ E (C.step h) fun vs y i d=>?_));refine AW (Bi d) fun J H j q1 G=>?_;clear d;obtain rfl:=j;obtain rfl:=q1;obtain rfl:=G;refine⟨by decide,spliced_nil (AM ?_)⟩
 refine AW (g.step i (C.step h).gh) fun a I l hl Z=>?_;clear g;obtain rfl:=l;have q:({ y with heap:=y.heap.push { cls:=.type "tuple",data:=.seq #[.type "list",.type "tuple"] } } : Shared).TypeIs (.ref a) "list":=by
  refine AY (hl) fun o e c Z=>?_;exact(AQ o (Br _ e) c)
 refine Ak (IsiPair.tupleOfB (Tx:="list") (cs:=[.type "list",.type "tuple"]) (vs:=[true,false]) (b:=true) (B2 (Answers.of_true rfl Vm) (Answers.of_false_list (by rfl) rfl sub_lt) trivial) q (BD _ rfl) rfl fun tk B=>?_);exact Iv (f:=.bool true) rfl (k _ (((h.trans i).trans (Step.push (w:=w) y { cls:=.type "tuple",data:=.seq #[.type "list",.type "tuple"] })).trans (Step.toks _ tk)))
theorem GC {m:UInt64} (h:DM xs=some m):∃ k,Et xs []=some k∧Float64.div (Float64.fsumEnd k) (Float64.ofInt xs.length)=m:=by
 rw [DM,Option.map_eq_some_iff]at h;exact h
end
theorem nz (h:k≠0):(!Ce (.int k))=false:=by simp [Ce,h]
theorem OG {m:UInt64} (g:1≤xs.length) (y:xs.length≤1000) (e:DM xs=some m) :
  Dm w (n+1) (.ref 329) [.list xs] [] [] (.ret (.fv (.AS m))):=by
 refine AF (GC e) fun i x e=>?_;refine Jk (o:=Ee) (fd:=fdOf Ee) (body:=Ag (BM 18)) (bs:=[("data",.list xs),("weights",.fv .none)]) rfl rfl rfl rfl (fun vs ks h a c=>?_) (fun h G=>codeRec_of G.kin (by kernel_rfl)) (fun p d=>?_) ?_ rfl rfl rfl rfl rfl rfl
 ·refine AF (BP a) fun v k b=>?_;clear a;obtain rfl:=k;obtain rfl:=A6 c;exact⟨[("data",v),("weights",.none)],fun S=>rfl,rfl,b,rfl,trivial⟩
 ·exact locs (by rfl) p d
 ·refine AN C6 ?_;refine Er (An (C7 (pv:=.fv .none) (AA rfl)) rfl) ?_;refine AN (Jj (Bq (AL (EM rfl rfl y) (.inr ⟨DI rfl,rfl⟩)) EJ)) ?_;refine AN (AL (DQ rfl rfl x) (.inl rfl)) ?_;refine BW (An (Bn (Az (f:=.int xs.length) (AA rfl))) (nz (Int.natCast_ne_zero_iff_pos.mpr g))) ?_;refine Pg (CA (AI (AA rfl) (AA rfl) (DD (Wq g) (CZ (Hd y))))) ?_;refine AB e ?_;rfl
theorem IV : Dm w (n+1) (.ref 329) [.list []] [] [] (.exc (.ref 102)):=by
 refine Jk (o:=Ee) (fd:=fdOf Ee) (body:=Ag (BM 18)) (bs:=[("data",.list []),("weights",.fv .none)]) rfl rfl rfl rfl (fun vs ks h e g=>?_) (fun h G=>codeRec_of G.kin (by kernel_rfl)) (fun p y=>?_) ?_ rfl rfl rfl rfl rfl rfl
 ·refine AF (BP e) fun v k x=>?_;clear e;obtain rfl:=k;obtain rfl:=A6 g;exact⟨[("data",v),("weights",.none)],fun S=>rfl,rfl,x,rfl,trivial⟩
 ·exact locs (by rfl) p y
 ·refine AN C6 ?_;refine Er (An (C7 (pv:=.fv .none) (AA rfl)) rfl) ?_;refine AN (Jj (Bq (AL (EM (xs:=[]) rfl rfl (by decide)) (.inr ⟨DI rfl,rfl⟩)) EJ)) ?_;refine AN (AL (DQ (xs:=[]) (qs:=[]) rfl rfl rfl) (.inl rfl)) ?_;refine Er (An (Bn (Az (f:=.int 0) (AA rfl))) rfl) ?_;exact Ks rfl
theorem Vo {out:Out} (a:Bo w (NM Ee) (OC Ee) n none (PE.sets (fun z=>none) [("data",.list xs),("weights",.list ys)]) (Ag (BM 18)) out) :
  Dm w (n+1) (.ref 329) [.list xs,.list ys] [] [] out:=by
 refine Jk (o:=Ee) (fd:=fdOf Ee) (body:=Ag (BM 18)) (bs:=[("data",.list xs),("weights",.list ys)]) rfl rfl rfl rfl (fun vs ks h e y=>?_) (fun h G=>codeRec_of G.kin (by kernel_rfl)) (fun p g=>?_) a rfl rfl rfl rfl rfl rfl
 ·refine AW (Bi e) fun v u k x b=>?_;clear e;obtain rfl:=k;obtain rfl:=A6 y;exact⟨[("data",v),("weights",u)],fun S=>rfl,rfl,x,b,trivial⟩
 ·exact locs (by rfl) p g
theorem I9 {x:FV} {e:List UInt64} (g:Et ys []=some e)
  (d:Hl w (n+1) (.builtin "math.sumprod") [.list xs,.list ys] [] [] (.fv x)) {out:Out}
  (b:(Float64.isZero (Float64.fsumEnd e)=true∧out = .exc (.ref 102))∨(Float64.isZero (Float64.fsumEnd e)=false∧∃ r,D2 w .Div x (.AS (Float64.fsumEnd e)) r∧out = .ret (.fv r))) :
  Dm w (n+2) (.ref 329) [.list xs,.list ys] [] [] out:=by
 refine Vo ?_;refine AN C6 ?_;refine BW (An (C7 (pv:=.list ys) (AA rfl)) rfl) ?_;refine BW (An (Bn (Vn (xs:=ys) rfl rfl rfl rfl)) rfl) ?_;refine AN (Jj (Bq (AL (BG I8 rfl (nm:=[]) rfl rfl (AE (AA rfl) (AE (AA rfl) AK)) Ad d) (.inl rfl)) EJ)) ?_;refine AN (AL (DQ (xs:=ys) rfl rfl g) (.inl rfl)) ?_;refine Or.elim b (fun k=>?_) (fun h=>?_)
 ·refine df (k) fun a=>?_;refine Er (An (Bn (Az (f:=.AS (Float64.fsumEnd e)) (AA rfl))) (by simp [Ce,a])) ?_;exact Ks rfl
 ·refine Mi (h) fun a r c y=>?_;clear h b;obtain rfl:=y;refine BW (An (Bn (Az (f:=.AS (Float64.fsumEnd e)) (AA rfl))) (by simp [Ce,a])) ?_;exact CA (AI (AA rfl) (AA rfl) c)
section
variable {w:Wd} {names:BC} {oc:List Str} {n:Nat} {A:Around} {env:Env} {s₀ s s':Shared} {own:Option Str} {pe:PE}
theorem Xd {x:Str} (e:D7 names env) (hl:names.lookup x=some .local) (g:px.line=pos.line)
  (h:(sc.names.any fun(n,k)=>n==x&&(k == .local||k == .cell))=false):swapsWith (.ListComp elt gens sc pos) (some (.Name x px)) spos.line env=pure true:=by
 have y:env.kindOf x=some .local:=by show env.scope.names.lookup x=_;refine AB e.nm ?_;exact hl
 have a:env.blockKind = .function:=by unfold Env.blockKind;refine AB e.kd ?_;rfl
 show(pure (env.blockKind == .function&&env.kindOf x==some .local&&px.line==pos.line && !(sc.names.any fun(n,k)=>n==x&&(k == .local||k == .cell))):Sem Bool)=_;refine AB a ?_;refine AB y ?_;refine AB g ?_;refine AB h ?_;rewrite [beq_self_eq_true];refine AB (beq_self_eq_true ..) ?_;refine AB (beq_self_eq_true ..) ?_;rfl
theorem Mw {x:Str} {p:Row→Bool} {g:Row→FV}
  (M:N0 w names n pe iter (Au names sc.names) (Ct sc.names) target (A3 names sc.names pe) rows)
  (Z:namesOk sc.names=true) (a0:sc.kind = .function) (J:∀ x∈sc.names,x.2 = .local→sc.names.lookup x.1=some .local) (L:Ci names sc.names pe=true)
  (O:∀ r∈rows,∀ q∈r,A3 names sc.names pe q.1=none) (N:∀ r∈rows,Ko w (Au names sc.names) n ifs ((A3 names sc.names pe).sets r) (p r))
  (K:∀ r∈rows,p r=true→Ev w (Au names sc.names) n ((A3 names sc.names pe).sets r) elt (.fv (g r))) (hz:rows.length≤1000)
  (hl:names.lookup x=some .local) (Y:px.line=pos.line) (T:(sc.names.any fun(n,k)=>n==x&&(k == .local||k == .cell))=false)
  (hs:autoParam (∀ env x,foldedSetIterable iter env x=pure x) Me) :
  N1 w names oc n own pe (.Assign [.Name x px] (.ListComp elt [⟨target,iter,ifs,0⟩] sc pos) spos) (some x) (pe.set x (.list ((rows.filter p).map g))):=fun A env s₀ s Q E F k=>by
 refine AB (exec_Assign_Name_used _ _ _ _ (Xd F.cx.eo hl Y T)) ?_;refine AD (wpAny_standAt (AD ?_));refine AD (wpAny_mono (Gb (use:=some (assign (.Name x px) env)) (Q:=fun _ s'=>Q .next s') (E:=E) F.cx M Z a0 J L O N (fun _ _=>True) (fun _=>trivial) (fun _ _ _ _ _=>trivial) (fun r hr Y=>(K r hr Y).j) hz (hs env) fun D S vs s' m x' R hd hf _ hm hC=>?_)
  (fun _ s' hq=>AM (AM hq)) fun _ _ e=>e)
 have hk:env.kindOf x=some .local:=by show env.scope.names.lookup x=_;refine AB F.cx.eo.nm ?_;exact hl
 refine Ap (F.ns) fun mL hL=>?_;have H:=x'.ns hL;refine BR (id hL) fun oL gn gq eL dL _=>?_;have B:env.locals≠S:=by rintro rfl;injection (hC.symm.trans eL)
 refine wpAny_assign_Name (wpAny_storeName_local hk H (fun ec i d=>?_) (by refine AB F.cx.eo.kd ?_;rfl));refine(AQ m (hm.sameBut d (fun h=>B h.symm)) (fun a c=>?_))
 refine BR (id H) fun oS gu gy eS dS _=>?_;refine BR (id (i.sameBut c B)) fun o3 gz g' e3 d3 _=>?_
 have I:Heap.SameBut S s'.heap (a.update env.locals fun _=>oS):=⟨(Heap.SameBut.update a env.locals _).1.trans (c.1.trans d.1),fun b V=>by
  by_cases G:b=env.locals
  ·rw [G,(Heap.get?_update_self _ e3 (by cases oS;cases dS;rfl)),eS]
  ·exact((Heap.SameBut.update a env.locals _).2 b G).trans ((c.2 b V).trans (d.2 b G))⟩
 refine BR (id hm) fun oC hE hG eC dC _=>?_;have X:Step w s { s' with heap:=a.update env.locals fun _=>oS,toks:=s'.toks }:=x'.write F.cx.gh I hC eC fun vs q=>by injection (dC.symm.trans q)
 have U:D≠S:=by rintro rfl;refine Ap (hd) fun ml W=>?_;obtain rfl:=(B6 W eC);injection dC
 have P:(a.update env.locals fun _=>oS).PlainList D vs.toArray:=by refine Ap (hd) fun ml W=>?_;exact⟨ml,(I.2 D U).trans W⟩
 refine k _ (Hp (t:=s'.toks+1) (pv:=.list ((rows.filter p).map g)) (F.step X) hl (Bl D vs rfl P.isList hf) (H.sameBut I B) (i.sameBut c B) ⟨(Heap.SameBut.update a env.locals _).1.symm,fun b V=>((Heap.SameBut.update a env.locals _).2 b V).symm⟩ (some x)
  fun y h=>(G5 (by refine AB (Ai h) ?_;rfl) D _ vs rfl rfl P hf (F.st.gone F.g0 R) (fun z pz hz ez=>?_)))
 refine AF (F.cx.vars z pz ez) fun u p q=>?_;refine(Aj u (p.step X F.cx.gh) (q.step X F.cx.gh) ?_)
 by_cases C:pz.Fy=true
 ·exact .inl C
 refine .inr ?_;rintro rfl;clear ez;induction pz with
 |raw=>exact C rfl
 |fv f=>cases f<;>first | (refine Ap (q) fun _ q=>?_;injection q) | (injection q)
 |str=>refine Ap (q) fun t q=>?_;injection q
 |list=>refine AW (q) fun b us e v _=>?_;refine AF (v) fun o g _=>?_;clear v;obtain rfl:=(PySem.Value.ref.inj e);injection (R.symm.trans g)
 |BN=>refine AW (q) fun b us e l _=>?_;refine AF (l) fun o g _=>?_;clear l;obtain rfl:=(PySem.Value.ref.inj e);injection (R.symm.trans g)
 |line=>refine Ga (q) fun b o t u m' e g _=>?_;obtain rfl:=(PySem.Value.ref.inj e);injection (R.symm.trans g)
end
theorem Step.both {t F:Nat} {L:Addr} {o G H:Obj} (x:Step w s s') (a:Heap.SameBut L s.heap h) (y:Heap.SameBut L s'.heap h') (e:h.get? L=some o) (C:h'.get? L=some o)
  (u:s.heap.get? L=some G) (X:Af G) (M:s'.heap.get? L=some H) (U:Af H) (V:Af o) (z:L∉Cd) (l:t≤F):Step w { s with heap:=h,toks:=t } { s' with heap:=h',toks:=F } where
 tk:=l
 keep:=fun b B n d g=>by
  by_cases k:b=L
  ·clear u;subst k;obtain rfl:=(B6 (show h.get? b=_ from g) e);exact C
  ·exact(y.2 b k).trans (x.keep b B n d ((a.2 b k).symm.trans g))
 EZ:=fun b B g d=>by
  by_cases k:b=L
  ·clear u;subst k;rw [show h.get? b=_ from g]at e;cases e;exact⟨o.slots,C⟩
  ·refine Ap (x.EZ b B ((a.2 b k).symm.trans g) d) fun T q=>?_;exact⟨T,(y.2 b k).trans q⟩
 grow:=fun P D A g=>by
  have k:P≠L:=fun h=>z (h▸D);refine Ap (x.grow P D A ((a.2 P k).symm.trans g)) fun m q=>?_;exact⟨m,(y.2 P k).trans q⟩
 tabs:=fun Q p J=>by
  have f:∀ q∈EI,q.1≠L:=fun q j h=>z (by refine Ar Cn ?_;refine Ar h ?_;exact List.mem_map.mpr (AQ q j rfl));have c:∀ q∈EI,TabAt s.heap q.1 q.2:=fun q j=>by
   refine AY (Q q j) fun A K S O=>?_;refine(Aj A ((a.2 _ (f q j)).symm.trans K) S (fun pos R v=>?_))
   refine Ax (O pos R v) fun r oc vs tk N I E W=>?_;refine(Ba r oc vs tk N ?_ E W)
   by_cases i:r=L
   ·clear u z C;subst i;exfalso;obtain rfl:=(B6 e I)
    refine Bj (V) fun Z Z d=>?_;injection (d.symm.trans E)
   ·exact(a.2 r i).symm.trans I
  exact(x.tabs c p J).but y M (fun vs q=>by refine Bj (U) fun Z Z d=>?_;injection (d.symm.trans q)) (f p J)
 os:=x.os
 gens:=x.gens
noncomputable def PE.del (pe:PE) (y:Str):PE:=fun k=>if k=y then none else pe k
section
variable {w:Wd} {names:BC} {oc:List Str} {n:Nat} {own Xe Xg aF:Option Str} {pe cW cX Xh:PE} {out:Out}
theorem HP {x:Str} (y:D7 names env) (a:AZ s.heap env x v) (h:Q v s)
  (hd:autoParam ((x==("__debug__" : Str))=false) B8) (b:autoParam ((x==("__classdict__" : Str))=false) B8):wpAny (MD w) A (eval (.Name x pos) env) Q E s:=by
 refine wpAny_Name ?_ hd;exact a.el (fun e m g k=>wpAny_loadName_local y.kd e g k h) (fun e c hl k=>wpAny_loadName_cell y.kd e hl k h) fun e c hl k=>wpAny_loadName_free y.kd e hl k h b
set_option maxHeartbeats 1000000 in
theorem oi {e:Type} {a:Option e} {x y:e} (h:a=some x) (k:a=some y):x=y:=Ai (h.symm.trans k)
theorem OH {t:Expr} {a b c:Stmt} {y z x:Str} {aG aH xp yp bp pz aI:Pos} {Wk:Str} {cA P:Addr} {zs:List FV} {res:Bc} {f0:UInt64} {rest:List Stmt}
  (ht:Tr w names (n+1) pe t true) (ha:N1 w names oc (n+1) own pe a Xe cW) (L:N1 w names oc (n+1) Xe cW b Xg cX) (hc:N1 w names oc (n+1) Xg cX c aF Xh)
  (g:K1 w names Xh cA P q xv yv Wk sc ys zs yb) (hx:Xh x=some (.list xs)) (aJ:x≠y) (cY:names.lookup y=some .local) (ee:names.lookup z=some .local) (hH:z≠y)
  (hk:names.lookup "sumprod" = some .globalImplicit) (hlen:xs.length=zs.length) (XR:xs≠[]) (hs:Eu xs zs z3=some res)
  (hrest:Bo w names oc (n+1) none ((PE.del Xh y).set z (.fv (.AS (Float64.add (Float64.add (Float64.ofInt 0) (tlToFloat res)) f0)))) rest out)
  (dx:autoParam ((x==("__debug__" : Str))=false) B8) (ef:autoParam ((x==("__classdict__" : Str))=false) B8) (dy:autoParam ((y==("__debug__" : Str))=false) B8) (eh:autoParam ((y==("__classdict__" : Str))=false) B8) :
  Bo w names oc (n+1) own pe (.If t [a,b,c,.Assign [.Name y py] (.GeneratorExp (.BinOp (.Name xv p1) .Sub (.Name yv p2) p3) [⟨.Name xv px,.Name Wk pi,[],0⟩] sc aI) aG] [] aH::
   .Assign [.Name z pz] (.BinOp (.Call (.Name "sumprod" np) [.Name x xp,.Name y yp] [] cp) .Add (.Constant (.float f0) kk fp) bp) spos::rest) out:=fun s₀ A env outer s Q E hf hl F k=>by
 refine wpAny_execs_cons (wpAny_If (ht A env s _ E F.cx fun s₁ Vh=>?_));refine wpAny_execs_cons (ha A env s₀ s₁ _ E (F.step Vh) fun CN Sd=>?_);refine wpAny_execs_cons (L A env s₀ CN _ E Sd fun L8 aK=>?_);refine wpAny_execs_cons (hc A env s₀ L8 _ E aK fun f B=>?_);refine wpAny_execs_cons ?_;have ky:env.kindOf y=some .local:=by show env.scope.names.lookup y=_;refine AB B.cx.eo.nm ?_;exact cY
 refine wpAny_Assign_Name (g.make B.cx (Nat.le_add_left _ _) fun ga C I ax cc Fg u m st aL aM=>?_) rfl;refine Ap (B.ns) fun mL hL=>?_;have U:=m.step.ns hL;refine wpAny_storeName_local ky U (fun D Xi K=>?_) (by refine AB B.cx.eo.kd ?_;rfl);refine wpAny_execs_nil ?_
 refine BR (id Xi) fun oN ek er eN dN rN=>?_;refine BR (id hL) fun o4 hQ hU e4 d4 r4=>?_;refine BR (id U) fun o5 hV hX e5 d5 r5=>?_;have et:oN.isFreed=false:=by cases oN;cases dN;rfl
 have ev:(f.heap.update env.locals fun _=>oN).get? env.locals=some oN:=Heap.get?_update_self _ e4 et;have aN:Heap.SameBut env.locals f.heap (f.heap.update env.locals fun _=>oN):=Heap.SameBut.update ..;have cZ:env.locals∉Cd:=B.cx.gh.off e4 (by rintro ⟨vs,q⟩;replace d4:=q▸d4;injection d4);have S:Fm w names oc (n+1) A env s₀ none { f with heap:=f.heap.update env.locals fun _=>oN,toks:=f.toks } (Xh.set y (.raw (.ref ga))):=
  Hp (t:=f.toks) B cY (pv:=.raw (.ref ga)) rfl hL (FA oN ek er ev dN rN) aN none fun _ h=>by injection h
 have G:Step w { f with heap:=f.heap.update env.locals fun _=>oN,toks:=f.toks } { u with heap:=D,toks:=u.toks+1 }:=
  Step.both m.step aN K ev eN e4 (DB _ _ d4) e5 (DB _ _ d5) (DB _ _ dN) cZ (Nat.le_succ_of_le m.step.tk)
 generalize eu:({ f with heap:=f.heap.update env.locals fun _=>oN,toks:=f.toks } : Shared)=sv at S G;have M:sv.heap.objs.size=f.heap.objs.size:=by refine Ar eu ?_;exact aN.1
 have W:=S.step G;refine FX (m.lo) fun a1 Ys cb ew=>?_;have a0:D.objs.size=u.heap.objs.size:=K.1;have Xj:f.heap.objs.size≤u.heap.objs.size:=Nat.le_of_lt (Nat.lt_of_le_of_lt a1 (Nat.lt_trans Ys (Nat.lt_trans cb ew)))
 have I2:=m.cQ sv S.cx.gh (Heap.get?_none_of_le (by refine AB M ?_;exact Nat.le_of_lt (Nat.lt_of_le_of_lt a1 Ys))) (Heap.get?_none_of_le (by refine AB M ?_;exact a1));have A1:env.locals<I:=Nat.lt_of_lt_of_le hL.lt a1;have Z:∀ s',(∀ b o,b≠env.locals→u.heap.get? b=some o→s'.heap.get? b=some o)→s'.gens=u.gens→Quiet (ga::C::[I,ax,cStatics,cc]) (some f.gens.size) u s':=fun s' kp hg=>
  ⟨fun b L o e=>kp b o (fun h=>(fun hm=>A0 (P:=fun c=>env.locals≠c) (Nat.ne_of_lt (Nat.lt_trans A1 (Nat.lt_trans Ys cb))) (A0 (Nat.ne_of_lt (Nat.lt_trans A1 Ys)) (A0 (Nat.ne_of_lt A1) (A0 (JV (aL) fun _ _ e _ _ d=>fun h=>by replace e:=h.symm▸e;obtain rfl:=oi e4 e;injection d4.symm.trans d)
  (A0 (AF (B.g0.nolimit) fun _ Xk _=>DZ (Xk) fun _ _ _ e _=>fun h=>by replace e:=h.symm▸e;injection B.lf.symm.trans e) (A0 (CD (aM) fun _ _ e d=>fun h=>by replace e:=h.symm▸e;obtain rfl:=oi e4 e;injection d4.symm.trans d) Dh))))) _ hm rfl) (h▸L)) e,fun j _=>by refine AB hg ?_;rfl,fun wr _ tv=>tv.kept fun p hp o e=>kp _ o (fun h=>cZ (by refine Ar h ?_;refine Ar Cn ?_;exact List.mem_map.mpr ⟨p,hp,rfl⟩)) e⟩
 have k6:∀ b o,b≠env.locals→u.heap.get? b=some o→D.get? b=some o:=fun b o L e=>(K.2 b L).trans e
 refine AF (S.cx.vars x (.list xs) (by simp [PE.set,aJ,hx])) fun ux vx rx=>?_;refine AF (S.cx.vars y (.raw (.ref ga)) (if_pos rfl)) fun uy vy ry=>?_;obtain rfl:uy = .ref ga:=ry;refine AW (rx) fun bx us Xl lx fx=>?_;clear rx;obtain rfl:=Xl;have cf:bx<f.heap.objs.size:=by refine AF (lx) fun o e _=>?_;refine Ar M ?_;exact Heap.lt_size e
 have cj:=G.list S.cx.gh lx;refine wpAny_execs_cons (wpAny_Assign_Name (wpAny_BinOp (wpAny_Call_ofName (BF W.cx I8 hk ?_))) rfl);refine callWith_builtin_kwB rfl rfl (Ae rfl rfl ?_);refine spliced_cons (HP W.cx.eo (vx.step G S.cx.gh) ?_ dx ef);refine spliced_cons (HP W.cx.eo (vy.step G S.cx.gh) ?_ dy eh);refine spliced_nil (AM ?_);refine F7 (wpAny_pyIter_list cj (Fi (g:=f.gens.size) ?_ fun T tk X kp hg ho htk hT eb=>?_))
 ·exact(I2.keep 0 u { u with heap:=D.push { cls:=.type "list_iterator",data:=.fields #[.ref bx,.int 0 0] },toks:=u.toks+1 } st (Z _ (fun b o L e=>Br _ (k6 b o L e)) rfl)).1.1
 have k8:∀ b o,D.get? b=some o→X.heap.get? b=some o:=fun b o e=>kp b o (Br _ e);have I1:KP w A.in1 sv (.ref D.objs.size) xs [D.objs.size,bx] [D.objs.size] none (fun i s=>s.heap.IsListIter D.objs.size bx i∧s.heap.IsList bx us.toArray):=
  Hy (A:=A.in1) B.cx.ok.h S.cx.gh (Heap.get?_none_of_le (by refine AB M ?_;refine AB a0 ?_;exact Xj)) (Nat.ne_of_lt (by refine AB a0 ?_;exact Nat.lt_of_lt_of_le cf Xj)) fx
 refine FF (H0 S.cx.ok) I1 I2 (fun b L N=>?_) (fun b L N=>?_) (fun j hj=>by injection hj) hlen res XR (G.trans (Step.D8 k8 ho hg htk)) ⟨(Aj _ (kp _ _ (BD _ rfl)) rfl rfl),?_⟩ (I2.keep 0 u X st (Z X (fun b o L e=>k8 b o (k6 b o L e)) hg)) hT hs fun v s' x' hv=>?_
 ·replace N:=(List.mem_singleton.mp L)▸N;rewrite [a0]at N;exact Nat.lt_irrefl _ (m.below _ N)
 ·have l:=m.below b (List.mem_cons_of_mem _ (A0 (P:=fun b=>b∈[C,I,ax,cStatics,cc]) (.head _) (A0 (.tail _ (.head _)) Dh) b L));refine Or.elim (List.mem_cons.mp N) (fun h=>?_) (fun h=>?_)
  ·rw [h,a0]at l;exact Nat.lt_irrefl _ l
  ·exact Nat.lt_irrefl _ (Nat.lt_of_lt_of_le cf (List.mem_singleton.mp h▸(m.new b L).1))
 ·refine AF (cj) fun o e r=>?_;exact(AQ o (k8 _ _ e) r)
 have V:=S.step x';refine PU f0 kk fp A env s' _ E V.cx fun vb J H rb=>?_;refine Hi A J _ E v vb B.cx.ok.h (V.step H).cx.ok.tk hv rb fun vr rv=>?_;refine B4 ((V.step H).step (Step.Bu J)) (.inl ee) (pv:=.fv (.AS _)) rv none (fun _ h=>by injection h) fun O Y _ _ _=>?_;refine hrest s₀ A env outer O Q E hf hl (Y.less fun kx pv R=>?_) k;simp only [PE.set,PE.del]at R ⊢
 by_cases h1:kx=z
 ·simpa [h1]using R
 ·simp only [h1,if_false]at R ⊢
  by_cases h2:kx=y
  ·simp [h2]at R
  ·simpa [h2]using R
end
section
variable {w:Wd} {names:BC} {oc:List Str} {n:Nat} {own:Option Str} {pe:PE}
theorem Mx {g:List Env} {l r:Expr} {H:Pos} {x:UInt64} (F:Fm w names oc n A env s₀ own s pe) (D:A.frames=some (env::g))
  (hl:Ev w names n pe l (.fv (.AS x))) (J:Ev w names n pe r (.fv (.AS y))) (L:Float64.isZero y=true)
  (k:∀ e p s',(p=none∨p=some none∨p=some (some env.locals))→CT w.base s'.heap (env::g)→Step w s₀ s'→Ep s₀.heap s'.heap (.type "ZeroDivisionError") e p→E (.ref e) s') :
  wpAny (MD w) A (eval (.BinOp l .Div r H) env) Q E s:=by
 refine wpAny_BinOp (hl A env s _ E F.cx fun N s₁ b B=>J A env s₁ _ E (F.cx.step b) fun O d i z=>?_);refine Ap (B) fun t j=>?_;clear B;obtain rfl:=j;refine Ap (z) fun u m=>?_;clear z;obtain rfl:=m;have a:=(F.step b).step i;refine AF (a.cx.ok.f) fun M o K=>?_;rw [D]at o;obtain rfl:env::g=M:=Ai o;refine Ak (AutoFloatOps.truediv_0 L ⟨a.cx.ok.h,fun h' tk e v C=>?_⟩);have c:Step w d { d with heap:=h',toks:=tk }:=Step.of_keeps v.keeps;refine k e none _ (.inl rfl) (K.step c) (a.st.trans c) ⟨a.st.gone F.g0 v.new,?_⟩;refine AW (v.there) fun I tt G q hd=>?_;exact(Cz I _ G q hd rfl (fun Z=>rfl) rfl)
theorem MH {l r:Expr} {z:Str} {f d:Pos} {x:UInt64} {h:List Stmt} (hl:Ev w names n pe l (.fv (.AS x))) (b:Ev w names n pe r (.fv (.AS y))) (c:Float64.isZero y=true) :
  Bo w names oc n own pe (.Assign [.Name z f] (.BinOp l .Div r d) pos::h) (.exc (.type "ZeroDivisionError")):=fun s₀ A env e s Q E g a F k=>
 wpAny_execs_cons (wpAny_Assign_Name (Mx F g hl b c k) rfl)
theorem Se {l r:Expr} {d:Pos} {x:UInt64} {h:List Stmt} (hl:Ev w names n pe l (.fv (.AS x))) (b:Ev w names n pe r (.fv (.AS y))) (c:Float64.isZero y=true) :
  Bo w names oc n own pe (.Return (some (.BinOp l .Div r d)) pos::h) (.exc (.type "ZeroDivisionError")):=fun s₀ A env e s Q E g a F k=>
 wpAny_execs_cons (wpAny_Return_some (Mx F g hl b c k))
theorem P':GV "ZeroDivisionError" (.type "ZeroDivisionError"):=Bp (fun z=>rfl) rfl (by decide)
theorem My:∀ P,exmOne (K0 P) (.type "ZeroDivisionError") (.type "ZeroDivisionError")=some true:=by intro P;kernel_rfl
end
theorem Sf : subIn (K0 P) (.ref 417) (.ref 417)=some true:=by kernel_rfl
theorem Mz : findIn (K0 P) (.ref 417) "__init__" = some (some (.builtin "object.__init__")):=by kernel_rfl
theorem Vp : findCls (K0 P) (.ref 417) (.type "type") "__new__" = some (.get (.builtin "staticmethod.__get__") (.ref 418) .none (.ref 417)):=by kernel_rfl
theorem Vq : recIn (K0 P) 418 "staticmethod" = some [.ref 367]:=by kernel_rfl
theorem QA:plainId "tuple.__new__" = true:=F.plain_tuple_new
theorem Vr (S) (h:Addr):peek (K0 P) S (checkBuiltinCall "tuple.__new__" ⟨[.ref 417,.ref h],[]⟩)=some ():=by kernel_rfl
theorem Xm (S):peek (K0 P) S (Bind.madeHere "tuple.__new__" (.ref 417))=some ():=by kernel_rfl
theorem Xn (S):peek (K0 P) S (classHasDel 417)=some false:=by kernel_rfl
theorem Xo (S):peek (K0 P) S (isType (.ref 417))=some true:=by kernel_rfl
theorem Xp (S):peek (K0 P) S (typeLookup (.ref 417) "__init__")=some (some (.builtin "object.__init__")):=by kernel_rfl
theorem Xq (S):peek (K0 P) S (isSubtype (.ref 417) (.type "tuple"))=some true:=by kernel_rfl
section
variable {w:Wd} {n:Nat} {A:Around} {Q:Value→Shared→Prop} {E:Value→Shared→Prop}
theorem OI {x y:Value} {h:Addr} (G:GH w s.heap) (i:A.handled=none) (f:s.heap.get? h=some { cls:=.type "tuple",data:=.seq #[x,y] })
  (k:∀ a s' o,Step w s s'→s'.heap.get? a=some o→o.cls = .ref 417→(∃ n,o.data = .seq #[x,y] n)→Q (.ref a) s') :
  wpAny (MD w) A (call (.builtin "tuple.__new__") [.ref 417,.ref h]) Q E s:=by
 refine wpAny_call (codeAny_call_builtin QA F.entry_tuple_new ?_);refine(Looks.of_peek G.kin (Vr _ h)).here ?_;unfold Builtin.«tuple.__new__»
 try dsimp only
 refine AD ((Looks.of_peek G.kin (Xo _)).here ?_)
 try dsimp only
 refine AB (if_neg (by decide)) ?_;refine AD ((Looks.of_peek G.kin (Xq _)).here ?_)
 try dsimp only
 refine AB (if_neg (by decide)) ?_;refine AD ((Looks.of_peek G.kin (Xm _)).here ?_);refine AD ((Looks.of_peek G.kin (Xp _)).here ?_);refine AB (if_pos (by decide)) ?_;have d:noKeywords "tuple" { pos:=[Value.ref 417,Value.ref h] } = pure ():=rfl;refine AB d ?_;refine AB (by kernel_rfl:checkCount "tuple" 0 1 [Value.ref h].length=pure ()) ?_;refine AD (AM ?_);refine AD (AM ?_);refine AB (if_neg (by decide)) ?_;refine AD (wpAny_collect_seq h (.inr rfl) f rfl rfl (fun h' g=>?_) (by show 2≤sizeLine;exact fit_le rfl));refine AD (AM ?_);refine AD (wpAny_alloc' ?_);have c:(h'.push { cls:=.type "dict",data:=.dict #[] }).get? 417=some PH:=Br _ (g _ _ (G.kin 417 _ rfl));unfold newObj newObjAsIs;refine AD ?_;show wpAny _ A.in1 (if(#[x,y]:Array Value).size>sizeLine then _ else _) _ _ _;refine AB (if_neg (by show ¬2>sizeLine;unfold sizeLine;exact of_decide_eq_true (Eq.refl true))) ?_;refine AD (wpAny_alloc' ?_);have kk:∀ b o,s.heap.get? b=some o→((h'.push { cls:=.type "dict",data:=.dict #[] }).push { cls:=.ref 417,dict:=some h'.objs.size,data:=.seq #[x,y] }).get? b=some o:=fun b o e=>Br _ (Br _ (g _ _ e));refine AD (((Looks.of_peek G.kin (Xn _)).keeps kk).here (s:={ s with heap:=(h'.push { cls:=.type "dict",data:=.dict #[] }).push { cls:=.ref 417,dict:=some h'.objs.size,data:=.seq #[x,y] } }) ?_);refine AB (if_neg (by decide)) ?_;refine AM (AM ?_);exact k _ { s with heap:=(h'.push { cls:=.type "dict",data:=.dict #[] }).push { cls:=.ref 417,dict:=some h'.objs.size,data:=.seq #[x,y] } } _ (Step.of_keeps kk) (BD _ rfl) rfl ⟨_,rfl⟩
end
theorem OJ : findCls (K0 P) (.type "tuple") (.type "type") "__new__" = some (.val (.builtin "tuple.__new__")):=by kernel_rfl
theorem ty_tuple:typeOf (.type "tuple")=pure (.type "type"):=by kernel_rfl
theorem H5:Manifest.isStub "tuple" = false:=by rfl
theorem OK:handedIn (.builtin "tuple.__new__")=true:=by rfl
section
variable {w:Wd} {names:BC} {n:Nat} {pe:PE}
theorem GD {K:Frag} {T:String} {a:Sem Bool} {Q:Value×List Value→Shared→Prop} (X:K.In s.heap) (b:typeOf (.type T)=pure (.type "type")) (d:Manifest.isStub T=false)
  (e:findCls K (.type T) (.type "type") name=some (.val v)) (g:handedIn v=true) (h:Q (v,[]) { s with toks:=s.toks+1 }):wpAny (MD w) A (getMethod (.type T) name a) Q E s:=by
 have k:opaqueClassAbove (.type T)=pure none:=by unfold opaqueClassAbove;dsimp only;refine AB d ?_;rfl
 have x:Looks (MD w) s.heap (typeOf (.type T)) (.type "type"):=Looks.of_pure b;have y:findIn K (.type "type") "__getattribute__" = some (some (.builtin "type.__getattribute__")):=type_tga;unfold getMethod specialOf;refine AD (AD (x.here ((looks_findIn X y).here ?_)));dsimp only;refine AB (if_pos canon_tga) ?_;refine AD (wpAny_mono (Q:=fun v=>Q (v,[])) (E:=E) ?_ (fun u u z=>AM z) fun u u z=>z);have c:Looks (MD w) s.heap (opaqueClassAbove (.type T)) none:=Looks.of_pure k;refine cls_open X c x y (looks_hook X (r:=none) (by rfl)) (by show subIn K _ _=_;rfl) e
  (AM (by show wpAny _ _ (handedOut v) _ _ _;refine AB (handedOut_of g) ?_;exact AM h))
theorem Si {B z u l:Pos} {x:UInt64} (O:names.lookup "tuple" = some .globalImplicit) (M:pe "_cls" = some (.raw (.ref 417))) (K:pe "slope" = some (.fv (.AS x))) (N:pe "intercept" = some (.fv (.AS y))) (P:(F.endLine==l.line)=true) :
  Ev w names n pe (.Call (.Attribute (.Name "tuple" np) "__new__" F) [.Name "_cls" B,.Tuple [.Name "slope" z,.Name "intercept" u] kk g] [] l) (.line x y):=fun A env s Q E C k=>by
 have t:methodCallPos true (.Name "tuple" np) env F l=pure l:=by unfold methodCallPos;exact if_pos P
 refine AB (arm_eval_Call ..) ?_;refine AB (rfl:attributeBase (.Name "tuple" np) "__new__" env (eval (.Name "tuple" np) env)=eval (.Name "tuple" np) env) ?_;refine AD (BF C Ew O ?_);refine AD (wpAny_standAt ?_);unfold methodCall;refine AB (show methodCallForm (([.Name "_cls" B,.Tuple [.Name "slope" z,.Name "intercept" u] kk g]:List Expr).length+([]:List Keyword).length) (backTo l (starEach [.Name "_cls" B,.Tuple [.Name "slope" z,.Name "intercept" u] kk g] env)) (backToKw l (keywordEach [] env))=true from rfl) ?_;refine AD (wpAny_holding (GD (T:="tuple") (name:="__new__") (v:=.builtin "tuple.__new__") C.gh.kin ty_tuple H5 OJ OK ?_));refine AD (wpAny_of_eq t ?_);have G:=C.step (Step.Bu s);refine callWith_builtin_kwB rfl rfl (Ae rfl rfl ?_);show wpAny _ A (spliced ((false,eval (.Name "_cls" B) env)::(false,eval (.Tuple [.Name "slope" z,.Name "intercept" u] kk g) env)::[])) _ _ _;refine spliced_cons (AA M (by rfl) (by rfl) A env _ _ E G fun v s₁ b m=>?_);obtain rfl:v = .ref 417:=m;refine spliced_cons (wpAny_Tuple ((AE (AA K) (AE (AA N) AK)) A env s₁ g _ E (G.step b) fun vs f j i=>?_));refine AW (Bi i) fun S R r p q=>?_;clear i;obtain rfl:=r;obtain⟨D,rfl⟩:=p;obtain⟨H,rfl⟩:=q;refine⟨by show 2≤sizeLine;exact fit_le rfl,spliced_nil (AM ?_)⟩
 have I:=Step.push (w:=w) f { cls:=.type "tuple",data:=.seq #[.float x (D+1),.float y (H+1)] };refine OI (s:={ f with heap:=f.heap.push { cls:=.type "tuple",data:=.seq #[.float x (D+1),.float y (H+1)] } }) (((G.step b).step j).step I).gh C.ok.h (BD _ rfl) fun a s' o J e c d=>?_;refine Ap (d) fun L d=>?_;exact k _ s' (((((Step.Bu s).trans b).trans j).trans I).trans J) (Dk a o D H L rfl e c trivial d)
end
theorem OL {x:UInt64} : Dm w (n+1) (.ref 367) [.raw (.ref 417)] ["slope","intercept"] [.fv (.AS x),.fv (.AS y)] (.ret (.line x y)):=by
 refine Jk (o:=PG) (fd:=fdOf PG) (body:=Ag (BQ 22 4)) (bs:=[("_cls",.raw (.ref 417)),("slope",.fv (.AS x)),("intercept",.fv (.AS y))]) rfl rfl rfl rfl (fun vs ks h a g=>?_) (fun h G=>codeRec_of G.kin (by kernel_rfl)) (fun p d=>?_) ?_ rfl rfl rfl rfl rfl rfl
 ·refine AF (BP a) fun v e b=>?_;clear a;obtain rfl:=e;refine AW (Bi g) fun j f k i c=>?_;clear g;obtain rfl:=k;exact⟨[("_cls",v),("slope",j),("intercept",f)],fun S=>rfl,rfl,b,i,c,trivial⟩
 ·exact locs (by rfl) p d
 ·refine AN C6 ?_;exact CA (Si rfl rfl rfl rfl rfl)
theorem K3 (G:GH w h) : Looks (MD w) h (opaqueClassAbove (.ref C)) none:=by
 refine AF (G.Fx) fun y x e=>?_;intro A Q E s k q;refine AD (AD (wpAny_nsGet (x.keeps k) (AM ?_)));refine AB e ?_;refine AB (if_pos (by rfl)) ?_;exact AM q
theorem Vs (S) (a b:Value):peek (K0 P) S (checkBuiltinCall "type.__call__" ⟨[.ref 417],[("slope",a),("intercept",b)]⟩)=some ():=by kernel_rfl
theorem Vt (S):peek (K0 P) S (mroOf (.ref 417))=some [.ref 417,.type "tuple",.type "object"]:=by kernel_rfl
theorem QB (S):peek (K0 P) S (Bind.madeBy (.ref 417))=some none:=by kernel_rfl
theorem Vu : findIn (K0 P) (.type "type") "__getattribute__" = some (some (.builtin "type.__getattribute__")):=by kernel_rfl
theorem Xr : typeIn (K0 P) (.ref 417)=some (.type "type"):=by kernel_rfl
section
variable {w:Wd} {n:Nat} {A:Around} {Q:Value→Shared→Prop} {E:Value→Shared→Prop}
theorem Sj (G:GH w s.heap) {k:Bool} (h:∀ tk,Q (.ref 367) { s with toks:=tk }):wpAny (MD w) A (getAttr (.ref 417) "__new__" k) Q E s:=by
 refine cls_open G.kin (K3 G) (looks_typeIn G.kin Xr) Vu (looks_hook G.kin (r:=none) (by rfl)) (by show subIn _ _ _=_;rfl) Vp ?_;refine AD (wpAny_holding (wpAny_call (sm_get (s:={ s with toks:=s.toks+1 }) G.kin Vq ?_)));refine AM ?_;show wpAny _ _ (handedOut (.ref 367)) _ _ _;refine AB (handedOut_of rfl) ?_;exact AM (h _)
end
theorem Sk : subIn (K0 P) (.ref 417) (.type "object")=some true:=by kernel_rfl
theorem QC (a k h:Value):argsOk "object.__init__" ⟨[a],[("slope",k),("intercept",h)]⟩:=by kernel_rfl
section
variable {w:Wd} {n:Nat}
theorem Xs {h:Shared} {kw:List (Str×Value)} (k:BS w (m+1) A h):BS w m (A.under (.builtin "type.__call__" ⟨[.ref 417],kw⟩)) h:=by
 have e:(Code.builtin "type.__call__" ⟨[.ref 417],kw⟩).cUnits=1:=by kernel_rfl
 refine⟨k.h,?_,?_,?_,?_⟩
 ·have:=k.d;exact VT this
 ·have:=k.u;show A.units+(Code.builtin "type.__call__" ⟨[.ref 417],kw⟩).cUnits+20*m≤9000;exact VK this
 ·refine AF (k.f) fun l a b=>?_;refine(AQ l ?_ b)
  refine AB (rfl:(Code.builtin "type.__call__" ⟨[.ref 417],kw⟩).envs=[]) ?_;refine AB a ?_;rfl
 ·exact k.tk
theorem Sl {e k:Value} (y:Looks (MD w) s'.heap (typeOf (.ref a)) (.ref 417)) (g:Looks (MD w) s'.heap (isInstance (.ref a) (.type "object")) true) (x:GH w s'.heap) (h:Q .none s') :
  wpAny (MD w) A (call (.builtin "object.__init__") [.ref a] [("slope",e),("intercept",k)]) Q E s':=by
 refine wpAny_call ?_;refine codeAny_call_builtin oi_plain entry_oi ?_;refine @check_slot (MD w) A.in1 _ s' "object.__init__" "object" "__init__" (.ref a) [] [("slope",e),("intercept",k)] _ oi_kind oi_split g (QC _ _ _) ?_;unfold Builtin.«object.__init__»;dsimp only;refine AB (if_pos (by rfl)) ?_;refine AD (y.here ?_);refine AD ((looks_findIn x.kin Mz).here ?_);refine AD ((Looks.of_peek x.kin (QB _)).here ?_);refine AB (if_neg (by decide)) ?_;refine AB (if_neg (by decide)) ?_;exact AM h
theorem Sn {x:UInt64} : Dm w (n+2) (.ref 417) [] ["slope","intercept"] [.fv (.AS x),.fv (.AS y)] (.ret (.line x y)):=fun A s Q E vs ks G H i z k=>by
 refine AB (A6 i) ?_;refine AW (Bi z) fun C B f D I=>?_;clear z;obtain rfl:=f;have r:s.heap.get? 417=some PH:=G.kin 417 _ rfl;have N:=tc_lookup;have K:=tc_bind (.ref 417);have q:codeAny (MD w) A (.call (.builtin "type.__call__") ⟨[.ref 417],[("slope",C),("intercept",B)]⟩) (DH Q E) s:=by
  refine codeAny_call_builtin_at (Code.quiet_builtin _ (by decide +kernel)) entry_typeCall ?_;refine(Looks.of_peek G.kin (Vs _ _ _)).here ?_;unfold Builtin.«type.__call__»
  try dsimp only
  refine AB (if_neg (by decide)) ?_;refine AD ((Looks.of_peek G.kin (Vt _)).here ?_);refine AB (if_neg (by decide)) ?_;refine AD ((Looks.of_peek G.kin (QB _)).here ?_);refine AD (Ak (Sj G fun tk p=>?_));have j:Step w s { s with toks:=tk }:=Step.toks s tk p;refine AD (wpAny_holding (OL (n:=n) _ { s with toks:=tk } _ _ [.ref 417] [C,B] (j.gh G) (Xs (H.step j)) ⟨rfl,trivial⟩ (B2 D I trivial) fun v s' x i=>?_));refine DC (i) fun a o t u F b e c M d=>?_;clear i;obtain rfl:=b;have l:=x.gh (j.gh G);have m:Looks (MD w) s'.heap (typeOf (.ref a)) (.ref 417):=by
   have:Looks (MD w) s'.heap (typeOf (.ref a)) o.cls:=(Looks.ld e).andThen .now;rwa [c]at this
  have J:Looks (MD w) s'.heap (isInstance (.ref a) (.type "object")) true:=m.andThen (looks_subIn l.kin Sk);refine AD ((m.andThen (looks_subIn l.kin Sf):Looks (MD w) s'.heap (isInstance (.ref a) (.ref 417)) true).here ?_);refine AB (if_neg (by decide)) ?_;refine AD (wpAny_holding ?_);refine AD (AD (m.here ((looks_findIn l.kin Mz).here ?_)));refine wpAny_holding ?_;refine AB (oi_bind ..) ?_;refine AD (AM ?_);refine AD (Sl m J l ?_);refine AM ?_;dsimp only;refine AB (if_neg (by decide)) ?_;exact AM (k _ s' (j.trans x) (Dk a o t u F rfl e c trivial d))
 obtain⟨h,g,d,tk,os⟩:=s;have L:(⟨h,g,d,tk,os⟩:Shared).TypeIs (.ref 417) "type":=(AQ _ r rfl)
 refine wpAny_call (codeAny_of_tree ?_)
 repeat (any_goals (first | assumption | with_reducible refine wpAny_loadPart_at r ?_ | wp_step))
 exact⟨rfl,q⟩
end
theorem So (S):peek (K0 P) S (keeperOf (.ref 417))=some .machine:=by kernel_rfl
theorem Sp:GV "LinearRegression" (.ref 417):=BE fun z=>rfl
section
variable {w:Wd} {names:BC} {n:Nat} {pe:PE}
theorem QD {ks:List Keyword} {c:List PV} {nm:List Str} (u:names.lookup "LinearRegression" = some .globalImplicit)
  (m:ks.map (·.arg)=nm.map some) (o:SK w names n pe ks nm c) (p:Hl w n (.ref 417) [] nm c res) :
  Ev w names n pe (.Call (.Name "LinearRegression" np) [] ks pos) res:=fun A env s Q E C h=>by
 refine CK (DE ks nm env pos m) fun t B F=>?_;refine wpAny_Call_ofName (BF C Sp u ?_);refine AD (wpAny_holding ?_);refine Ae (f:=.ref 417) (es:=[]) rfl B ?_;refine AK A env s pos _ E C fun vs s₁ e a=>o A env s₁ pos _ E (C.step e) fun r l g d=>?_;refine AB (A6 a) ?_;refine AD (wpAny_standAt ?_);have k:=(C.step e).step g;refine AD ((Looks.of_peek k.gh.kin (So _)).here ?_);have z:((backToKw pos (keywordEach ks env)).any fun x=>x.fst.isNone)=false:=by
  rw [Bool.eq_false_iff];intro q;refine AF (List.any_eq_true.mp q) fun y D G=>?_;cases h1:y.1<;>simp_all
 refine AB (show((backTo pos (starEach [] env)).any fun x=>x.fst)=false from rfl) ?_;refine AB (Bool.false_or ..) ?_;refine AB z ?_;refine AB t ?_;refine AD (p A l _ E [] r k.gh k.ok trivial d fun v b j i=>?_);exact AD (wpAny_holding (wpAny_point (AM (h v b ((e.trans g).trans j) i))))
end
section
variable {w:Wd} {names:BC} {oc:List Str} {n:Nat} {own:Option Str} {pe:PE}
theorem Jq {y:Str} {x:Str} {p:FV→Bool} {g:FV→FV} (D:Ev w names n pe iter (.list xs))
  (A:(Au names sc.names).lookup x=some .local∨(x∈Ct sc.names∧(Au names sc.names).lookup x=some .cell)) (d:A3 names sc.names pe x=none)
  (v:namesOk sc.names=true) (u:sc.kind = .function) (e:∀ x∈sc.names,x.2 = .local→sc.names.lookup x.1=some .local) (c:Ci names sc.names pe=true)
  (i:∀ f∈xs,Ko w (Au names sc.names) n ifs ((A3 names sc.names pe).set x (.fv f)) (p f))
  (a:∀ f∈xs,p f=true→Ev w (Au names sc.names) n ((A3 names sc.names pe).set x (.fv f)) elt (.fv (g f))) (C:xs.length≤1000)
  (hl:names.lookup y=some .local) (t:py.line=pos.line) (o:(sc.names.any fun(n,k)=>n==y&&(k == .local||k == .cell))=false)
  (z:autoParam (∀ env x,foldedSetIterable iter env x=pure x) Me) :
  N1 w names oc n own pe (.Assign [.Name y py] (.ListComp elt [⟨.Name x px,iter,ifs,0⟩] sc pos) spos) (some y) (pe.set y (.list ((xs.filter p).map g))):=by
 have s:=Mw (w:=w) (names:=names) (oc:=oc) (n:=n) (own:=own) (pe:=pe) (x:=y) (px:=py) (spos:=spos) (elt:=elt) (target:=.Name x px) (iter:=iter) (ifs:=ifs) (sc:=sc) (pos:=pos) (rows:=xs.map fun f=>[(x,.fv f)])
  (p:=fun r=>match r with | [(_,.fv f)]=>p f | _=>false) (g:=fun r=>match r with | [(_,.fv f)]=>g f | _=>.none)
  (src_list D A d) v u e c (fun r h q B=>?_) (fun r h=>?_) (fun r h t=>?_) (by simpa using C) hl t o z
 ·rwa [List.filter_map,List.map_map,show(fun f=>(match ([(x,.fv f)]:Row)with | [(_,.fv f)]=>g f | _=>.none))=g from rfl,show((fun r:Row=>match r with | [(_,.fv f)]=>p f | _=>false)∘fun f=>[(x,.fv f)])=p from rfl]at s
 ·refine AF (List.mem_map.mp h) fun f Z j=>?_;obtain rfl:=j;refine AB (List.mem_singleton.mp B) ?_;exact d
 ·refine AF (List.mem_map.mp h) fun f m l=>?_;obtain rfl:=l;exact i f m
 ·refine AF (List.mem_map.mp h) fun f m b=>?_;clear h;obtain rfl:=b;exact a f m t
end
theorem Sq {x:UInt64} {b h k:Pos} (a:pe "slope" = some (.fv (.AS x))) (e:pe "intercept" = some (.fv (.AS y))) :
  SK w names n pe [⟨some "slope",.Name "slope" b,h⟩,⟨some "intercept",.Name "intercept" g,k⟩] ["slope","intercept"] [.fv (.AS x),.fv (.AS y)]:=DF (AA a) (DF (AA e) Ad)
theorem Sr {h:Type} {xs:List h} : (xs.filter fun z=>true)=xs:=List.filter_eq_self.mpr fun z z=>rfl
noncomputable def OM (t:Bc):UInt64:=Float64.add (Float64.add (Float64.ofInt 0) (tlToFloat t)) 0
noncomputable def CO (t:Bc):UInt64:=Float64.add (Float64.ofInt 0) (tlToFloat t)
noncomputable def Vv (xb yb Xt Vw:UInt64):Out:=
 if Float64.isZero Vw then .exc (.ref 102)else .ret (.line (Float64.div Xt Vw) (Float64.sub yb (Float64.mul (Float64.div Xt Vw) xb)))
set_option tactic.hygienic true in
set_option maxHeartbeats 4000000 in
theorem Vx {k:UInt64} {e a:Bc} (hl:xs.length=ys.length) (i:2≤xs.length) (m:xs.length≤1000) (D:∀ f∈xs,F9 f) (H:∀ f∈ys,F9 f) (d:DM xs=some k) (c:DM ys=some yb)
  (t:Eu (xs.map (B5 k)) (ys.map (B5 yb)) z3=some e) (B:Eu (xs.map (B5 k)) (xs.map (B5 k)) z3=some a) :
  Dm w (n+3) (.ref 426) [.list xs,.list ys] [] [] (Vv k yb (OM e) (CO a)):=by
 refine AF (GC d) fun px s d=>?_;refine AF (GC c) fun py A c=>?_;have j:xs.map (B5 k)≠[]:=by intro h;have:=congrArg List.length h;simp at this;replace i:=this▸i;exact Nat.not_succ_le_zero 1 i
 refine Jk (o:=Im) (fd:=fdOf Im) (body:=Ag (BM 23)) (bs:=[("x",.list xs),("y",.list ys),("proportional",.fv (.bool false))]) rfl rfl rfl rfl (fun vs ks h C F=>?_) (fun h G=>codeRec_of G.kin (by kernel_rfl)) (fun p I=>?_) ?_ rfl rfl rfl rfl rfl rfl
 ·refine AW (Bi C) fun v u l e a=>?_;clear C;obtain rfl:=l;obtain rfl:=A6 F;exact⟨[("x",v),("y",u),("proportional",.bool false)],fun S=>rfl,rfl,e,a,rfl,trivial⟩
 ·exact locs (by rfl) p I
 ·refine AN C6 ?_;refine AN (AL (EM rfl rfl m) (.inl rfl)) ?_;refine BW (An (BU (EM rfl rfl (hl▸m)) (AA rfl) Hj) (bne_eq_false_iff_eq.mpr (congrArg Nat.cast (id (Eq.symm hl))))) ?_;refine BW (An (BU (AA rfl) (AV _ _ _) Hk) (by simp;exact Int.toNat_le.mp i)) ?_;refine OH (n:=n+1) (x:="x") (y:="y") (z:="sxy") (xs:=xs.map (B5 k)) (ys:=ys) (zs:=ys.map (B5 yb)) (yb:=yb) (cA:=425) (P:=423) (q:="linear_regression.<locals>.<genexpr>") (res:=e)
   (An (Bn (Az (f:=.bool false) (AA rfl))) rfl)
   (AL (pv:=.fv (.AS k)) (Cw (AI (DQ rfl rfl s) (AA rfl) (DD (Kb i) (CZ (Hd m)))) (by refine Ar d ?_;rfl)) (.inr ⟨DI rfl,rfl⟩))
   (AL (pv:=.fv (.AS yb)) (Cw (AI (DQ rfl rfl A) (AA rfl) (DD (Kb i) (CZ (Hd m)))) (by refine Ar c ?_;refine AB hl ?_;rfl)) (.inr ⟨DI rfl,rfl⟩))
   (Jq (p:=fun Z=>true) (g:=B5 k) (AA rfl) (.inl rfl) rfl rfl rfl (by decide) rfl (fun Z Z=>rfl) (fun f E Z=>AI (AA rfl) (AA rfl) (ME (D f E))) m rfl rfl rfl)
   ⟨Vi,by kernel_rfl,rfl,rfl,rfl,by decide,rfl,rfl,rfl,.inl rfl,rfl,rfl,by exact Eq.symm (List.length_map (B5 yb)),Jm H,by rfl,by rfl,by rfl,by rfl,by rfl⟩ ?_ (by decide) rfl rfl (by decide) rfl (by simp [hl]) j t ?_
  ·show some (PV.list ((xs.filter fun Z=>true).map (B5 k)))=_;refine AB Sr ?_;rfl
  ·have r:∀ {pe':PE},pe' "x" = some (PV.list ((xs.filter fun Z=>true).map (B5 k)))→pe' "x" = some (.list (xs.map (B5 k))):=fun h=>by refine Eq.trans h ?_;refine AB Sr ?_;rfl
   refine AN (AL (pv:=.fv (.AS (CO a))) (BG I8 rfl (nm:=[]) rfl rfl (AE (AA (r rfl)) (AE (AA (r rfl)) AK)) Ad (Gh (n:=n+1) rfl j B)) (.inl rfl)) ?_;unfold Vv;split
   ·rename_i Xu;exact Es (MH (x:=OM e) (y:=CO a) (AA rfl) (AA rfl) Xu) P' rfl rfl My (by decide)
   ·rename_i Xu;refine AN (Jj (Bq (AL (pv:=.fv (.AS (Float64.div (OM e) (CO a)))) (AI (AA rfl) (AA rfl) (F0 Xu)) (.inl rfl)) EJ)) ?_;refine AN (AL (pv:=.fv (.AS (Float64.sub yb (Float64.mul (Float64.div (OM e) (CO a)) k)))) (Kh (b:=false) (Az (f:=.bool false) (AA rfl)) (fun h=>by injection h) fun Z=>AI (AA rfl) (AI (AA rfl) (AA rfl) F4) Kg) (.inl rfl)) ?_;exact CA (QD rfl rfl (Sq rfl rfl) (Sn (n:=n)))
section
variable {w:Wd} {names:BC} {n:Nat} {pe:PE}
theorem Jr {i:Int} (h:Ev w names n pe e (.fv (.int i))):Ev w names n pe (.UnaryOp .USub e pos) (.fv (.int (-i))):=fun A env s Q E C k=>
 wpAny_UnaryOp (h A env s _ E C fun v s₁ x r=>by
  obtain⟨t,rfl⟩:=r;exact PyProof.Rows.neg_int (k _ _ (x.trans (Step.Bu s₁)) ⟨_,rfl⟩))
theorem Ss {a:UInt64} (h:Ev w names n pe e (.fv (.AS a))):Ev w names n pe (.UnaryOp .USub e pos) (.fv (.AS (Float64.neg a))):=fun A env s Q E C k=>
 wpAny_UnaryOp (h A env s _ E C fun v s₁ x r=>by
  obtain⟨t,rfl⟩:=r;exact PyProof.Rows.neg_float (k _ _ (x.trans (Step.Bu s₁)) (D6 (C.step x).ok.tk)))
end
theorem M1:GV "sqrt" (.builtin "math.sqrt"):=BE fun z=>rfl
theorem K4:GV "isfinite" (.builtin "math.isfinite"):=BE fun z=>rfl
section
variable {w:Wd} {n:Nat}
theorem M3 {x:UInt64} (h:¬(Float64.isNaN (Float64.sqrt x) && !Float64.isNaN x)=true):Hl w n (.builtin "math.sqrt") [.fv (.AS x)] [] [] (.fv (.AS (Float64.sqrt x))):=fun A s Q E vs ks G g r a k=>by
 refine AF (BP r) fun v y e=>?_;clear r;obtain rfl:=y;obtain⟨t,rfl⟩:=e;obtain rfl:=A6 a;exact PySem.Flt.call_sqrt_float g.h (fun c=>absurd c h) fun z=>k _ _ (Step.Bu s) (D6 g.tk)
theorem K5 {x:UInt64} : Hl w n (.builtin "math.isfinite") [.fv (.AS x)] [] [] (.fv (.bool (Float64.isFinite x))):=fun A s Q E vs ks G g r y k=>by
 refine AF (BP r) fun v h e=>?_;clear r;obtain rfl:=h;obtain⟨t,rfl⟩:=e;obtain rfl:=A6 y;exact PySem.Flt.call_isfinite_float (k _ _ (Step.refl w s) rfl)
end
theorem Vy {x h:UInt64} {t:Bc} (c:Float64.sqrt (Float64.mul x y)=h) (g:¬(Float64.isNaN (Float64.sqrt (Float64.mul x y)) && !Float64.isNaN (Float64.mul x y))=true) (b:Float64.isFinite h=true)
  (d:Float64.isZero h=false) (m:¬Float64.isZero (Float64.mul 4611686018427387904 h)=true) (l:Eu [.AS x,.AS h] [.AS y,.AS (Float64.neg h)] z3=some t) :
  Dm w (n+3) (.ref 336) [.fv (.AS x),.fv (.AS y)] [] [] (.ret (.fv (.AS (Float64.add h (Float64.div (Float64.add (Float64.ofInt 0) (tlToFloat t)) (Float64.mul 4611686018427387904 h)))))):=by
 refine Jk (o:=Il) (fd:=fdOf Il) (body:=Ag (BM 19)) (bs:=[("x",.fv (.AS x)),("y",.fv (.AS y))]) rfl rfl rfl rfl (fun vs ks h e i=>?_) (fun h G=>codeRec_of G.kin (by kernel_rfl)) (fun p j=>?_) ?_ rfl rfl rfl rfl rfl rfl
 ·refine AW (Bi e) fun v u k a q=>?_;clear e;obtain rfl:=k;obtain rfl:=A6 i;exact⟨[("x",v),("y",u)],fun S=>rfl,rfl,a,q,trivial⟩
 ·exact locs (by rfl) p j
 ·refine AN C6 ?_;refine AN (AL (pv:=.fv (.AS h)) (Cw (BG M1 rfl (nm:=[]) rfl rfl (AE (AI (AA rfl) (AA rfl) F4) AK) Ad (M3 g)) (by refine AB c ?_;rfl)) (.inl rfl)) ?_;refine BW (An (Bn (Az (BG K4 rfl (nm:=[]) rfl rfl (AE (AA (pv:=.fv (.AS h)) rfl) AK) Ad K5))) (Bool.not_eq_eq_eq_not.mpr b)) ?_;refine BW (An (Bn (Az (f:=.AS h) (AA rfl))) (by simp [Ce,d])) ?_;refine AN (AL (OF (n:=n+1) (xs:=[.AS x,.AS h]) (ys:=[.AS y,.AS (Float64.neg h)]) I8 rfl (AE (AA rfl) (AE (AA rfl) AK)) (AE (AA rfl) (AE (Ss (AA rfl)) AK)) rfl (List.cons_ne_nil (FV.AS x) [FV.AS h]) (List.getElem?_eq_none_iff.mp rfl) l) (.inl rfl)) ?_;exact CA (AI (AA rfl) (AI (AA rfl) (AI (PU _ _ _) (AA rfl) F4) (F0 m)) Hi)
theorem Su {x h:UInt64} (b:Float64.sqrt (Float64.mul x y)=h) (a:¬(Float64.isNaN (Float64.sqrt (Float64.mul x y)) && !Float64.isNaN (Float64.mul x y))=true) (d:Float64.isFinite h=true)
  (i:Float64.isZero h=true) (e:(Ce (.AS x)&&Ce (.AS y))=false) :
  Dm w (n+1) (.ref 336) [.fv (.AS x),.fv (.AS y)] [] [] (.ret (.fv (.AS h))):=by
 refine Jk (o:=Il) (fd:=fdOf Il) (body:=Ag (BM 19)) (bs:=[("x",.fv (.AS x)),("y",.fv (.AS y))]) rfl rfl rfl rfl (fun vs ks h g j=>?_) (fun h G=>codeRec_of G.kin (by kernel_rfl)) (fun p l=>?_) ?_ rfl rfl rfl rfl rfl rfl
 ·refine AW (Bi g) fun v u k c m=>?_;clear g;obtain rfl:=k;obtain rfl:=A6 j;exact⟨[("x",v),("y",u)],fun S=>rfl,rfl,c,m,trivial⟩
 ·exact locs (by rfl) p l
 ·refine AN C6 ?_;refine AN (AL (pv:=.fv (.AS h)) (Cw (BG M1 rfl (nm:=[]) rfl rfl (AE (AI (AA rfl) (AA rfl) F4) AK) Ad (M3 a)) (by refine AB b ?_;rfl)) (.inl rfl)) ?_;refine BW (An (Bn (Az (BG K4 rfl (nm:=[]) rfl rfl (AE (AA (pv:=.fv (.AS h)) rfl) AK) Ad K5))) (Bool.not_eq_eq_eq_not.mpr d)) ?_;refine Er (An (Bn (Az (f:=.AS h) (AA rfl))) (by simp [Ce,i])) ?_;refine BW (An (FC (DO (Az (f:=.AS x) (AA rfl)) fun z=>DO (Az (f:=.AS y) (AA rfl)) fun z=>G8)) (by refine AB (Bool.and_true ..) ?_;exact e)) ?_;exact CA (AA rfl)
noncomputable def cm:FV→String
 |.none=>"NoneType"
 |.bool _=>"bool"
 |.int _=>"int"
 |.AS _=>"float"
noncomputable def Js:FV→Bool
 |.AS _=>false
 |_=>true
theorem GF:GV "type" (.type "type"):=Bp (fun z=>rfl) rfl (by decide)
theorem QE:GV "float" (.type "float"):=Bp (fun z=>rfl) rfl (by decide)
section
variable {w:Wd} {names:BC} {n:Nat} {pe:PE}
theorem M4 : Hl w n (.type "type") [.fv f] [] [] (.raw (.type (cm f))):=fun A s Q E vs ks G c r a k=>by
 refine AF (BP r) fun v e g=>?_;clear r;obtain rfl:=e;obtain rfl:=A6 a
 induction f with
 |none=>obtain rfl:=g;exact call_type_of (Tx:="NoneType") rfl (by rfl) (k _ _ (Step.refl w s) rfl)
 |bool b=>obtain rfl:=g;exact call_type_of (Tx:="bool") rfl (by rfl) (k _ _ (Step.refl w s) rfl)
 |int i=>refine Ap (g) fun t h=>?_;obtain rfl:=h;exact call_type_of (Tx:="int") rfl (by rfl) (k _ _ (Step.refl w s) rfl)
 |AS x=>refine Ap (g) fun t y=>?_;obtain rfl:=y;exact call_type_of (Tx:="float") rfl (by rfl) (k _ _ (Step.refl w s) rfl)
theorem JA {c:Pos} (a:names.lookup "type" = some .globalImplicit) (x:names.lookup "float" = some .globalImplicit) (b:Ev w names n pe e (.fv f)) (y:autoParam (BK e=true) Dy) :
  Tr w names n pe (.Compare (.Call (.Name "type" np) [e] [] c) [.IsNot] [.Name "float" fp] pos) (Js f):=fun A env s Q E C k=>
 wpAny_isTrue_Compare1 (Eo GF a (nm:=[]) (by simp [y]) rfl (AE b AK y) Ad M4 (by rfl) A env s _ E C fun d s₁ h g=>BF (C.step h) QE x (by
  obtain rfl:=g;refine isnot_type (wpAny_truthy_bool ?_);have:(!(Value.type (cm f)==Value.type "float"))=Js f:=by cases f<;>rfl
  refine AB this ?_;exact k s₁ h)) (by with_unfolding_all rfl)
end
structure CE (o:Obj):Prop where
 c1:o.cls≠.none
 c2:o.cls≠.type "module"
 d1:¬Af o
 d2:∀ v,o.data≠.cell v
 d3:∀ xs m,o.data≠.seq xs m
 d4:Iw o
 f:o.isFreed=false
theorem CE.nt {o:Obj} (m:CE o):¬Co o:=As m.c1
noncomputable abbrev Ea (h:Heap) (a:Addr) (o:Obj):Heap:=h.update a fun z=>o
noncomputable abbrev put (s:Shared) (a:Addr) (o:Obj):Shared:={ s with heap:=Ea s.heap a o }
noncomputable abbrev Wd.wit (w:Wd) (L:List (Addr×Obj)) (D:List Addr):Wd:={ w with led:=L,Bm:=D }
section
variable {w:Wd} {a:Addr} {o o':Obj} {h h':Heap} {L:List (Addr×Obj)} {D:List Addr} {s s':Shared}
theorem Bk (e:h.get? a=some o) (f:o'.isFreed=false):(Ea h a o').get? a=some o':=Heap.get?_update_self _ e f
theorem TabAt.mut {P:Addr} (x:TabAt h P q) (f:Heap.SameBut a h h') (e:h.get? a=some o) (m:CE o):TabAt h' P q:=by
 refine AY (x) fun k d t c=>?_;refine(Aj k ((f.2 _ (by rintro rfl;replace e:=d.symm.trans e;exact m.nt ⟨k,(Ai e).symm⟩)).trans d) t (fun pos p l=>?_))
 refine Ax (c pos p l) fun y oc vs tk j i b g=>?_;refine(Ba y oc vs tk j ((f.2 y ?_).trans i) b g)
 rintro rfl;obtain rfl:=(B6 i e)
 exact m.d4 vs _ _ b g
theorem HA {b:Addr} {mp} (y:h.Ns b mp) (e:h.get? a=some o) (m:CE o):b≠a:=by
 refine BR (y) fun c es k g x z=>?_;rintro rfl;obtain rfl:=(B6 g e)
 exact m.d1 (DB es k x)
theorem GH.put (G:GH w h) (e:h.get? a=some o) (m:CE o) (m':CE o') (A:w.base.get? a=none) (I:∀ p∈L,p=(a,o')∨(p∈w.led∧p.1≠a)) (N:∀ d∈D,d∈w.Bm):GH (w.wit L D) (Ea h a o'):=by
 have x:Heap.SameBut a h (Ea h a o'):=Heap.SameBut.update ..;refine⟨G.Ke,fun b i j=>(x.2 b (by rintro rfl;injection ((G.Ke b i j).symm.trans A))).trans (G.kin b i j),?_,?_,?_,?_,?_,?_,fun p v=>(G.tabs p v).mut x e m,fun b i j=>?_,fun p v=>?_,fun d hd=>?_⟩
 ·refine Ap (G.g) fun y k=>?_;exact⟨y,k.sameBut x (HA k e m)⟩
 ·refine AF (G.b) fun y k r=>?_;exact(AQ y (k.sameBut x (HA k e m)) r)
 ·refine AF (G.nolimit) fun y k r=>?_;exact(AQ y (k.sameBut x (HA k e m)) r)
 ·refine AF (G.Fx) fun y k r=>?_;exact(AQ y (k.sameBut x (HA k e m)) r)
 ·refine AF (G.told) fun y k r=>?_;exact(AQ y (k.sameBut x (HA k e m)) r)
 ·refine G4 (G.bmain) fun y B i k H n z c d p=>?_;exact(Ek y B i (k.sameBut x (HA k e m)) H n ((x.2 B (by rintro rfl;obtain rfl:=(B6 z e);exact m.c2 c)).trans z) c d p)
 ·refine Ap (G.sub b i j) fun u K=>?_;exact⟨u,(x.2 b (by rintro rfl;injection (A.symm.trans j))).trans K⟩
 ·refine Or.elim (I p v) (fun l=>?_) (fun t=>?_)
  ·refine AB l ?_;exact(B2 (Bk e m'.f) m'.c1 m'.d1)
  ·obtain⟨E,C⟩:=t;refine CK (G.led p E) fun q1 F M=>?_;exact(B2 ((x.2 _ C).trans q1) F M)
 ·refine Ap (G.Bm d (N d hd)) fun J q=>?_;exact⟨J,(x.2 d (by rintro rfl;obtain rfl:=(B6 q e);exact m.d1 (DB _ _ rfl))).trans q⟩
theorem GH.wit (G:GH w h) (k:∀ p∈L,h.get? p.1=some p.2∧p.2.cls≠.none∧¬Af p.2) (x:∀ d∈D,∃ e,h.get? d=some { cls:=.type "dict",data:=.dict #[],slots:=e }):GH (w.wit L D) h:=
 ⟨G.Ke,G.kin,G.g,G.b,G.nolimit,G.Fx,G.told,G.bmain,G.tabs,G.sub,k,x⟩
theorem GH.bare (G:GH (w.wit L D) h) (x:∀ p∈w.led,h.get? p.1=some p.2∧p.2.cls≠.none∧¬Af p.2) (k:∀ d∈w.Bm,∃ e,h.get? d=some { cls:=.type "dict",data:=.dict #[],slots:=e }):GH w h:=
 ⟨G.Ke,G.kin,G.g,G.b,G.nolimit,G.Fx,G.told,G.bmain,G.tabs,G.sub,x,k⟩
theorem Step.wit (x:Step w s s'):Step (w.wit L D) s s':=⟨x.keep,x.EZ,x.grow,x.tabs,x.os,x.gens,x.tk⟩
theorem Step.Bd (x:Step (w.wit L D) s s'):Step w s s':=⟨x.keep,x.EZ,x.grow,x.tabs,x.os,x.gens,x.tk⟩
theorem BS.wit {n A} (k:BS w n A s):BS (w.wit L D) n A s:=⟨k.h,k.d,k.u,k.f,k.tk⟩
theorem BS.Bd {n A} (k:BS (w.wit L D) n A s):BS w n A s:=⟨k.h,k.d,k.u,k.f,k.tk⟩
theorem HQ (G:GH w h) (e:h.get? a=some o) (m:CE o):a∉Cd:=G.off e m.nt
theorem Step.put (x:Step w s s') (e:s.heap.get? a=some o) (m:CE o) (m':CE o') (t:a∉Cd):Step w (put s a o') (put s' a o'):=by
 have r:s'.heap.get? a=some o:=x.keep a o t (fun Z=>m.d1) e;have j:Heap.SameBut a s.heap (Ea s.heap a o'):=Heap.SameBut.update ..;have y:Heap.SameBut a s'.heap (Ea s'.heap a o'):=Heap.SameBut.update ..;have g:=Bk e m'.f;refine⟨fun b l n d c=>?_,fun b l c d=>?_,fun P u v c=>?_,fun z p B=>?_,x.os,x.gens,x.tk⟩
 ·by_cases k:b=a
  ·clear e;subst k;obtain rfl:=(B6 (show(Ea s.heap b o').get? b=_ from c) g);exact(Bk r m'.f)
  ·exact(y.2 b k).trans (x.keep b l n d ((j.2 b k).symm.trans c))
 ·by_cases k:b=a
  ·clear e;subst k;obtain rfl:=(B6 (show(Ea s.heap b o').get? b=_ from c) g);exact absurd d m'.d1
  ·refine Ap (x.EZ b l ((j.2 b k).symm.trans c) d) fun F q=>?_;exact⟨F,(y.2 b k).trans q⟩
 ·have k:P≠a:=fun h=>t (h▸u);refine Ap (x.grow P u v ((j.2 P k).symm.trans c)) fun A q=>?_;exact⟨A,(y.2 P k).trans q⟩
 ·have i:∀ q∈EI,TabAt s.heap q.1 q.2:=fun q E=>by
   exact(z q E).mut (⟨j.1.symm,fun b C=>(j.2 b C).symm⟩) g m'
  exact(x.tabs i p B).mut y r m
theorem CT.put {base:Heap} {l:List Env} (f:CT base h l) (e:h.get? a=some o) (m:CE o):CT base (Ea h a o') l:=
 f.EZ fun b x z k d=>(AQ x (((Heap.SameBut.update h a _).2 b (by rintro rfl;obtain rfl:=(B6 k e);exact m.d1 d)).trans k) d)
theorem BS.put {n A} (k:BS w n A s) (e:s.heap.get? a=some o) (m:CE o):BS w n A (Internal.put s a o'):=
 ⟨k.h,k.d,k.u,AF (k.f) fun l i j=>⟨l,i,j.put e m⟩,k.tk⟩
theorem BA.mut (r:BA h pv v) (x:Heap.SameBut a h h') (e:h.get? a=some o) (m:CE o):BA h' pv v:=r.write x (by
 by_cases k:pv.Fy=true
 ·exact .inl k
 ·refine .inr ?_;rintro rfl;refine Bj (r.seq e (by simpa using k)) fun xs y q=>?_;exact m.d3 _ _ q)
theorem AZ.mut {x:Str} (k:AZ h env x v) (y:Heap.SameBut a h h') (e:h.get? a=some o) (m:CE o):AZ h' env x v:=
 k.tr (fun z g p q=>AQ g (p.sameBut y (HA p e m)) q) fun c i j=>j.sameBut y (by refine AF (j) fun oc q d=>?_;rintro rfl;obtain rfl:=(B6 q e);exact m.d2 _ d)
theorem Fm.put {oc:List Str} {own:Option Str} (F:Fm w names oc n A env s₀ own s pe) (e:s₀.heap.get? a=some o) (m:CE o) (m':CE o') (z:w.base.get? a=none)
  (B:∀ p∈L,p=(a,o')∨(p∈w.led∧p.1≠a)) (t:∀ d∈D,d∈w.Bm):Fm (w.wit L D) names oc n A env (Internal.put s₀ a o') none (Internal.put s a o') pe:=by
 have r:=HQ F.g0 e m;have y:s.heap.get? a=some o:=F.st.keep a o r (fun Z=>m.d1) e;have b:Heap.SameBut a s.heap (Ea s.heap a o'):=Heap.SameBut.update ..;have g:Heap.SameBut a s₀.heap (Ea s₀.heap a o'):=Heap.SameBut.update ..;refine⟨⟨F.cx.eo,F.cx.gh.put y m m' z B t,(F.cx.ok.put y m).wit,fun x pv f=>?_⟩,F.g0.put e m m' z B t,(F.st.put e m m' r).wit,?_,?_,F.lb,fun x f=>?_,fun Z h=>by injection h⟩
 ·refine AF (F.cx.vars x pv f) fun v i j=>?_;exact(AQ v (i.mut b y m) (j.mut b y m))
 ·refine Ap (F.ns) fun E p=>?_;exact⟨E,p.sameBut b (HA p y m)⟩
 ·exact(g.2 _ (by rintro rfl;injection (F.lf.symm.trans e))).trans F.lf
 ·refine CQ (F.HL x f) fun c v i j k u=>?_;have l:c≠a:=by refine AF (j) fun C q d=>?_;rintro rfl;clear e;obtain rfl:=(B6 q y);exact m.d2 _ d
  exact(E9 c v i (j.sameBut b l) ((g.2 c l).trans k) u)
end
noncomputable def Gj (w:Wd) (names:BC) (oc:List Str) (n:Nat) (pe:PE) (body:List Stmt) (R:Out→Shared→Prop) (s₀:Shared):Prop:=
 ∀ (A:Around) (env:Env) (outer:List Env) (s:Shared) (Q:Flow→Shared→Prop) (E:Value→Shared→Prop),A.frames=some (env::outer)→env.frame=some env.locals→Fm w names oc n A env s₀ none s pe→
  (∀ sg s',R (.ret (.fv .none)) sg→Step w sg s'→Q .next s')→(∀ pv sg v s',R (.ret pv) sg→Step w sg s'→BA s'.heap pv v→Q (.ret v) s')→
  (∀ cls sg e st s',R (.exc cls) sg→(st=none∨st=some none∨st=some (some env.locals))→CT w.base s'.heap (env::outer)→Step w sg s'→Ep sg.heap s'.heap cls e st→E (.ref e) s')→
  wpAny (MD w) A (execs body env) Q E s
section
variable {w:Wd} {names:BC} {oc:List Str} {n:Nat} {own':Option Str} {pe pe':PE} {R:Out→Shared→Prop} {s₀:Shared}
theorem Ca {y:Stmt} {k:List Stmt} (h:N1 w names oc n none pe y own' pe') (c:Gj w names oc n pe' k R s₀):Gj w names oc n pe (y::k) R s₀:=
 fun A env e s Q E b hl F k0 g d=>wpAny_execs_cons (h A env s₀ s _ E F fun s₁ x=>c A env e s₁ Q E b hl x.disown k0 g d)
theorem Jt {x:List Stmt} (d:Ev w names n pe e pv) (c:R (.ret pv) s₀):Gj w names oc n pe (.Return (some e) pos::x) R s₀:=
 fun A env g s Q E f hl F k0 b i=>wpAny_execs_cons (wpAny_Return_some (d A env s _ E F.cx fun v s₁ y k=>b pv s₀ v s₁ c (F.st.trans y) k))
theorem HR (e:R (.ret (.fv .none)) s₀):Gj w names oc n pe [] R s₀:=fun A env k s Q E y hl F k0 x g=>wpAny_execs_nil (k0 s₀ s e F.st)
theorem Vz {out:Out} (h:Hr w names oc n none pe body out s₀) (g:R out s₀):Gj w names oc n pe body R s₀:=fun A env k s Q E c hl F k0 b f=>by
 refine h A env k s Q E c hl F ?_;clear h;induction out with
 |ret pv=>exact fun v s' x r=>b pv s₀ v s' g x r
 |exc cls=>exact fun e i s' y d x X=>f cls s₀ e i s' g y d x X
theorem ON (M:Model) (k:PySem.Ctx) {b:List Stmt} {Q:Flow→Pos→Shared→Prop} {E:Value→Pos→Shared→Prop} (a:List Stmt):∀ (p:Pos) (s:Shared),
  Sem.wp M k (execs (a++b) env) Q E p s=Sem.wp M k (execs a env) (fun f e s'=>Sem.wp M k (match f with | .next=>execs b env | f=>pure f) Q E e s') E p s:=by
 induction a with
 |nil=>exact fun z z=>rfl
 |cons g x y=>
  intro p s;refine AB List.cons_append ?_;refine AB (execs_cons ..) ?_;refine Eq.trans (Sem.wp_bind' ..) ?_;refine AB (execs_cons ..) ?_;refine AB (Sem.wp_bind' ..) ?_;refine congrArg (fun q=>Sem.wp M k _ q E p s) (funext fun f=>funext fun e=>funext fun s'=>?_)
  induction f with
  |next=>exact y e s'
  |brk=>rfl
  |cont=>rfl
  |ret v=>rfl
theorem Dc {t:Expr} {k e:List Stmt} {Q:Flow→Shared→Prop}
  (h:wpAny (MD w) A (isTrue t env (eval t env)) (fun b x=>wpAny (MD w) A (execs ((if b then body else k)++e) env) Q E x) E s):wpAny (MD w) A (execs (.If t body k pos::e) env) Q E s:=fun d p c=>by
 refine AB (execs_cons ..) ?_;simp only [exec_If,Sem.wp_bind',Sem.wp_cmd_standAt];refine Sem.wp_mono _ d _ (fun b y x g=>?_) (fun z z z h'=>h') _ _ (h d _ c);have f:=g d y c;rw [ON]at f;cases b<;>exact f
theorem QF {t:Expr} {k:List Stmt} {e:List Stmt} (f:Tr w names n pe t b) (h:Gj w names oc n pe ((if b then body else k)++e) R s₀):Gj w names oc n pe (.If t body k pos::e) R s₀:=
 fun A env x s Q E c hl F k0 g d=>Dc (f A env s _ E F.cx fun s₁ y=>h A env x s₁ Q E c hl (F.step y) k0 g d)
theorem HS {t:Expr} {k:List Stmt} {e:List Stmt} (x:Tr w names n pe t true) (h:Gj w names oc n pe (body++e) R s₀):Gj w names oc n pe (.If t body k pos::e) R s₀:=QF x h
theorem Dq {t:Expr} {k:List Stmt} {e:List Stmt} (x:Tr w names n pe t false) (h:Gj w names oc n pe (k++e) R s₀):Gj w names oc n pe (.If t body k pos::e) R s₀:=QF x h
theorem CF {f:Addr} {o:Obj} {vs:List Value} {kw:List (Str×Value)} {binds:List (Str×Value)} {bs:List (Str×PV)}
  (G:GH w s.heap) (I:BS w (n+1) A s) (M:(K0 w.w.params).lookup f=some o) (i:o.data = .func fd) (b:fd.body = .stmts body) (T:∀ S,peek (K0 w.w.params) S (bindArgs fd ⟨vs,kw⟩)=some binds) (z:∀ h,GH w h→h.CodeRec fd.code fd.qualname)
  (F:fd.closure=[]) (C:binds.map (·.1)=bs.map (·.1)) (k:Bs s.heap (bs.map (·.2)) (binds.map (·.2))) (g:∀ p∈bs,fd.scope.names.lookup p.1=some .local∨(p.1∈Ct fd.scope.names∧fd.scope.names.lookup p.1=some .cell))
  (V:Gj w (Iy fd) (Ct fd.scope.names) n (PE.sets (fun a=>none) bs) body R s) (U:∀ cls sg,R (.exc cls) sg→∃ L D,GH (w.wit L D) sg.heap)
  (K:∀ pv sg v s',R (.ret pv) sg→Step w sg s'→BA s'.heap pv v→Q v s')
  (Y:∀ cls sg e s',R (.exc cls) sg→Step w sg s'→Ep sg.heap s'.heap cls e (some none)→E (.ref e) s')
  (H:namesOk fd.scope.names=true) (q:fd.globals=mainGlobals) (t:fd.builtins=builtinsNs)
  (u:fd.scope.isCoroutine=false) (j:fd.scope.isGenerator=false) (W:fd.scope.kind = .function) :
  codeAny (MD w) A (.call (.ref f) ⟨vs,kw⟩) (DH Q E) s:=by
 refine codeAny_call_function (prog:=PR) (w:=w.w) (by have:=I.d;show A.depth<1000;exact Nu this) (G.kin f o M) i u j b (z _ G) (kp_binds G.kin T _ _ _ _ ?_);refine enter G I (by refine AB F ?_;exact Dh) (pc:=fun a=>none) (fun a a h=>by injection h) C k g (fun env l m hl J B y=>⟨y.cx.gh.nolimit,codeAny_func ?_⟩) H q t W;refine V (A.deeper env) env l m _ _ (Around.frames_deeper hl) J y (fun sg s' k x=>K _ sg .none s' k x rfl) (fun pv sg v s' k x r=>K pv sg v s' k x r) fun cls sg e Z s' k g c x X=>?_;refine Bj (U cls sg k) fun L D O=>?_;exact leave (w:=w.wit L D) (Around.frames_deeper hl) c J O x.wit X g fun h' a N P=>Y cls sg e _ k N.Bd P
end
structure Be (K:Frag) (C:Addr) (name:Str) (p i:Nat):Prop where
 fo:∀ od,findObj K C od name=some (.bind (.builtin "member_descriptor.__get__") (.ref p))
 ga:findIn K (.ref C) "__getattribute__" = some (some (.builtin "object.__getattribute__"))
 gk:findIn K (.ref C) "__getattr__" = some none
 sl:slotIn K p C=some i
 sa:findIn K (.ref C) "__setattr__" = some (some (.builtin "object.__setattr__"))
 po:plainOver K C=true
 tk:takerIn K C name=some (some (.ref p))
 ty:typeIn K (.ref p)=some (.type "member_descriptor")
structure Aq (w:Wd) (a dx C:Addr) (sl:Array (Option Value)):Prop where
 a:(a,{ cls:=.ref C,dict:=some dx,data:=.plain,slots:=sl })∈w.led
 d:dx∈w.Bm
noncomputable abbrev AX (C dx:Addr) (sl:Array (Option Value)):Obj:={ cls:=.ref C,dict:=some dx,data:=.plain,slots:=sl }
theorem AH (C k:Addr) (e:Array (Option Value)):CE (AX C k e):=
 ⟨(fun q=>by injection q),(fun q=>by injection q),(fun h=>Bj (h) fun z z d=>by injection d),(fun v d=>by injection d),(fun z z d=>by injection d),(fun vs q t d=>by injection d),rfl⟩
noncomputable def AP (sl:Array (Option Value)) (i:Nat) (v:Value):Array (Option Value):=(sl++Array.replicate (i+1-sl.size) none).setIfInBounds i (some v)
theorem EN {o:Obj} {f:Obj→Obj} (e:h.get? a=some o):h.update a f=h.update a fun z=>f o:=by
 obtain⟨objs,l⟩:=h;have x:objs[a]? = some o:=((Heap.get?_eq_some _ _ _).mp e).1
 show Heap.mk (objs.modify a f) l=Heap.mk (objs.modify a fun z=>f o) l
 congr 1
 apply Array.ext_getElem?;intro i;rw [Array.getElem?_modify,Array.getElem?_modify]
 by_cases k:a=i
 ·subst k;simp [x]
 ·simp [k]
section
variable {w:Wd} {names:BC} {oc:List Str} {n:Nat} {pe:PE} {a dx C:Addr} {sl:Array (Option Value)} {name:Str} {p i:Nat}
theorem Aq.at (I:Aq w a dx C sl) (G:GH w h):∃ k,InstAt h a (AX C dx sl) C (some k)∧shadowIn (some k) name=some false:=by
 refine CK (G.led _ I.a) fun e z z=>?_;refine Ap (G.Bm _ I.d) fun y x=>?_;exact(AQ _ ⟨e,rfl,rfl,x⟩ (by rfl))
theorem Gk {k:Bool} (G:GH w s.heap) (I:Aq w a dx C sl) (S:Be (K0 w.w.params) C name p i) (x:(sl[i]?).join=some v) (y:handedIn v=true)
  (h:Q v { s with toks:=s.toks+1 }):wpAny (MD w) A (getAttr (.ref a) name k) Q E s:=by
 refine AF (I.at (name:=name) G) fun g e z=>?_;exact get_bind G.kin e S.ga (S.fo _) S.gk (wpAny_call (slot_get (s:={ s with toks:=s.toks+1 }) G.kin e S.sl x (handed_on y h)))
theorem A8 {x:Str} {d:Pos} (g:pe x=some (.raw (.ref a))) (I:Aq w a dx C sl) (S:Be (K0 w.w.params) C name p i) (y:(sl[i]?).join=some v) (c:autoParam (handedIn v=true) Dy)
  (hd:autoParam ((x==("__debug__" : Str))=false) B8) (b:autoParam ((x==("__classdict__" : Str))=false) B8):Ev w names n pe (.Attribute (.Name x np) name d) (.raw v):=fun A env s Q E C k=>
 Attribute_Name_ (AA g hd b A env s _ E C fun u s₁ h e=>by
  refine AB e ?_;exact Gk (C.step h).gh I S y c (k _ _ (h.trans (Step.Bu s₁)) rfl))
theorem BI (h:Ev w names n pe e (.raw v)) (r:BZ f v):Ev w names n pe e (.fv f):=fun A env s Q E C k=>h A env s Q E C fun u s' x q=>by refine AB q ?_;exact k _ _ x r
theorem OO {R:Result→Shared→Prop} (G:GH w s.heap) (I:Aq w a dx C sl) (B:slotIn (K0 w.w.params) p C=some i) (N:i<1000)
  (h:R (.ok (.ret .none)) (put s a (AX C dx (AP sl i v)))):codeAny (MD w) A (.call (.builtin "member_descriptor.__set__") ⟨[.ref p,.ref a,v],[]⟩) R s:=by
 refine AF (I.at (name:="") G) fun J f Z=>?_;have X:=G.kin;obtain⟨n,q,y,k,tb,d,F,u,e,l,r,o,x⟩:=slot_of X B;obtain rfl:=x;obtain⟨b,g,j,t,os⟩:=s;have z:=f.type (M:=MD w);have m:=looks_mroIn (M:=MD w) X r;have D:Looks (MD w) b (Builtin.Slots.slotNamesOf (.ref C)) u.slotNames:=(looks_clsIn X l).andThen .now;have c:=f.at_;dsimp only at e c z m;have f0:=looks_field (M:=MD w) e 0 (v:=.str n q) rfl;have L:=looks_field (M:=MD w) e 1 (v:=y) rfl;have H:=looks_field (M:=MD w) e 3 (v:=.builtin "proto.slot#set") rfl;have E:=looks_field (M:=MD w) e 4 (v:=.int k tb) rfl;refine codeAny_call_builtin KF.slot_mset.plain KF.entry_mset (KF.slot_mset.check _ _ _ _ _ _ _ _ (AQ _ e rfl) (KF.args_mset _ _ _) ?_);unfold Builtin.«member_descriptor.__set__» Builtin.Getset_descriptor.descrSet Builtin.Getset_descriptor.descrStoreThrough Builtin.Getset_descriptor.descrCheckInstance Builtin.Getset_descriptor.descrNameAndClass isInstance;have K:Looks (MD w) b (Builtin.Getset_descriptor.descrItself (.ref p)) [.ref p]:=((Looks.ld (part:=none) e).andThen .now).andThen (Looks.of_pure (by kernel_rfl))
 repeat lk
 refine⟨Code.quiet_builtin _ (by decide +kernel),codeAny_builtin KF.entry_slotset ?_⟩
 unfold Builtin.«proto.slot#set» Builtin.Slots.target
 repeat lk
 refine AB (if_neg o) ?_;refine AM (AD ?_);unfold setSlotAt;dsimp only;refine AB (if_neg (by refine AB sizeLine_eq ?_;exact Nat.not_le.mpr (Nat.lt_trans N (by decide)))) ?_;refine wpAny_updatePart c (AM ?_);refine AB (show({ heap:=b.update a _,gens:=g,drawn:=j,toks:=t,os:=os } : Shared)=_ from congrArg (fun h=>({ heap:=h,gens:=g,drawn:=j,toks:=t,os:=os } : Shared)) (EN c)) ?_;exact h
end
noncomputable def CJ (l:List (Addr×Obj)) (a:Addr) (o:Obj):List (Addr×Obj):=l.map fun p=>if p.1=a then(a,o)else p
noncomputable abbrev Wd.putL (w:Wd) (a:Addr) (o:Obj):Wd:=w.wit (CJ w.led a o) w.Bm
set_option tactic.hygienic true in
theorem Ao {l:List (Addr×Obj)} {o:Obj} : ∀ p∈CJ l a o,p=(a,o)∨(p∈l∧p.1≠a):=fun p k=>by
 refine AF (List.mem_map.mp k) fun q h e=>?_;split at e
 ·exact .inl e.symm
 ·rename_i hn;refine Ar e ?_;exact .inr ⟨h,hn⟩
theorem H6 {l:List (Addr×Obj)} {o:Obj} (h:(a,o)∈l):(a,o')∈CJ l a o':=List.mem_map.mpr ⟨_,h,by simp⟩
theorem Bx {l:List (Addr×Obj)} {b:Addr} {o:Obj} (h:(b,o)∈l) (k:b≠a):(b,o)∈CJ l a o':=List.mem_map.mpr ⟨_,h,by exact if_neg k⟩
theorem Aq.hit {h:Addr} {k sl':Array (Option Value)} (I:Aq w a h C k):Aq (w.putL a (AX C h sl')) a h C sl':=⟨H6 I.a,I.d⟩
theorem Aq.miss {b h:Addr} {k:Array (Option Value)} (I:Aq w b h C k) (e:b≠a):Aq (w.putL a o') b h C k:=⟨Bx I.a e,I.d⟩
section
variable {w:Wd} {names:BC} {oc:List Str} {n:Nat} {pe:PE} {a dx C:Addr} {sl:Array (Option Value)} {name:Str} {p i:Nat} {R:Out→Shared→Prop} {s₀:Shared}
theorem FH {Q:Unit→Shared→Prop} (G:GH w s.heap) (I:Aq w a dx C sl) (S:Be (K0 w.w.params) C name p i) (e:i<1000)
  (h:Q () { put s a (AX C dx (AP sl i v))with toks:=s.toks+1 }):wpAny (MD w) A (setAttr (.ref a) name v) Q E s:=by
 refine AF (I.at (name:=name) G) fun x k z=>?_;exact set_plain G.kin k S.sa (osa_descr (s:={ s with toks:=s.toks+1 }) KF.slot_mset G.kin k S.po S.tk S.ty (OO (s:={ s with toks:=s.toks+1 }) G I S.sl e h))
noncomputable def K6 (pv:PV) (v:Value):Prop:=∃ h,BA h pv v
theorem C8 (g:w'.base=w.base) (m:w'.w=w.w) (h:Gj w' names oc n pe body R s₁) {k:List Env} {Q:Flow→Shared→Prop}
  (f:A.frames=some (env::k)) (hl:env.frame=some env.locals) (F:Fm w' names oc n A env s₁ none s pe)
  (k0:∀ sg s',R (.ret (.fv .none)) sg→Step w sg s'→Q .next s') (c:∀ pv sg v s',R (.ret pv) sg→Step w sg s'→BA s'.heap pv v→Q (.ret v) s')
  (t:∀ cls sg e y s',R (.exc cls) sg→(y=none∨y=some none∨y=some (some env.locals))→CT w.base s'.heap (env::k)→Step w sg s'→Ep sg.heap s'.heap cls e y→E (.ref e) s') :
  wpAny (MD w) A (execs body env) Q E s:=by
 have j:MD w'=MD w:=by show model PR w'.w=model PR w.w;exact congrArg _ m
 refine Ar j ?_;refine h A env k s Q E f hl F (fun sg s' r x=>k0 sg s' r ⟨fun a o n d=>x.keep a o n (by refine AB g ?_;exact d),x.EZ,x.grow,x.tabs,x.os,x.gens,x.tk⟩) (fun pv sg v s' r x q=>c pv sg v s' r ⟨fun a o n d=>x.keep a o n (by refine AB g ?_;exact d),x.EZ,x.grow,x.tabs,x.os,x.gens,x.tk⟩ q) fun cls sg e y s' r b l x X=>
  t cls sg e y s' r b (by refine Ar g ?_;exact l) ⟨fun a o n d=>x.keep a o n (by refine AB g ?_;exact d),x.EZ,x.grow,x.tabs,x.os,x.gens,x.tk⟩ X
theorem Aw {x:Str} {o:Pos} {g:List Stmt} (G:pe x=some (.raw (.ref a))) (t:Ev w names n pe e pv) (I:Aq w a dx C sl) (S:Be (K0 w.w.params) C name p i) (H:w.base.get? a=none)
  (J:∀ v,K6 pv v→Gj (w.putL a (AX C dx (AP sl i v))) names oc n pe g R (put s₀ a (AX C dx (AP sl i v)))) (M:autoParam (i<1000) B8)
  (z:autoParam (∀ env,swapsWith e (some (.Attribute (.Name x np) name o)) pos.line env=pure false) Me)
  (hd:autoParam ((x==("__debug__" : Str))=false) B8) (r:autoParam ((x==("__classdict__" : Str))=false) B8):Gj w names oc n pe (.Assign [.Attribute (.Name x np) name o] e pos::g) R s₀:=
 fun A env m s Q E q hl F k0 K N=>wpAny_execs_cons (plainObj_wpAny_Assign_Attribute (t A env s _ E F.cx fun v s₁ k c=>AA G hd r A env s₁ _ E (F.cx.step k) fun u b l j=>by
  refine AB j ?_;have y:=(F.step k).step l;refine FH y.cx.gh I S M ?_;refine CK (F.g0.led _ I.a) fun B Z Z=>?_;have f:=(y.put (L:=CJ w.led a (AX C dx (AP sl i v))) (D:=w.Bm) B (AH C dx sl) (AH C dx (AP sl i v)) H Ao (fun d h=>h)).step (s':={ put b a (AX C dx (AP sl i v))with toks:=b.toks+1 }) (Step.Bu _);exact C8 (w:=w) (w':=w.putL a (AX C dx (AP sl i v))) rfl rfl (J v ⟨_,c⟩) q hl f k0 K N) (z env))
end
theorem QG : Be (K0 P) 167 "_keyfunc" 175 7:=by constructor<;>intros<;>kernel_rfl
theorem Ut : Be (K0 P) 167 "_it" 174 6:=by constructor<;>intros<;>kernel_rfl
theorem M5 : Be (K0 P) 167 "_has_tgtkey" 173 5:=by constructor<;>intros<;>kernel_rfl
theorem M6 : Be (K0 P) 167 "_tgtkey" 177 9:=by constructor<;>intros<;>kernel_rfl
theorem K7 : Be (K0 P) 167 "_has_currkey" 171 3:=by constructor<;>intros<;>kernel_rfl
theorem HB : Be (K0 P) 167 "_currkey" 169 1:=by constructor<;>intros<;>kernel_rfl
theorem K8 : Be (K0 P) 167 "_has_currvalue" 172 4:=by constructor<;>intros<;>kernel_rfl
theorem M7 : Be (K0 P) 167 "_currvalue" 170 2:=by constructor<;>intros<;>kernel_rfl
theorem JB : Be (K0 P) 167 "_currgrouper" 168 0:=by constructor<;>intros<;>kernel_rfl
theorem M8 : Be (K0 P) 167 "_serial" 176 8:=by constructor<;>intros<;>kernel_rfl
theorem QH : Be (K0 P) 212 "_number" 213 0:=by constructor<;>intros<;>kernel_rfl
theorem QI : Be (K0 P) 212 "_parent" 214 1:=by constructor<;>intros<;>kernel_rfl
theorem QJ : Be (K0 P) 212 "_tgtkey" 215 2:=by constructor<;>intros<;>kernel_rfl
theorem QK : Be (K0 P) 265 "_cnt" 266 0:=by constructor<;>intros<;>kernel_rfl
theorem Xv : Be (K0 P) 265 "_fast" 267 1:=by constructor<;>intros<;>kernel_rfl
theorem Uu : Be (K0 P) 265 "_step" 268 2:=by constructor<;>intros<;>kernel_rfl
theorem Uv : Be (K0 P) 310 "_items" 311 0:=by constructor<;>intros<;>kernel_rfl
noncomputable def IW:List Value→Nat→Prop:=fun vs t=>∃ ts:List Nat,vs.length=ts.length∧(∀ (k:Nat) (i:Int) (u:Nat),vs[k]? = some (Value.int i u)→ts[k]? = some u)∧ts.Pairwise (· < ·)∧(∀ u∈ts,0<u∧u<t)
theorem QL (t:Nat):IW [] t:=(GZ [] rfl (fun k i u h=>by injection h) .nil (fun u h=>by cases h))
theorem OP (vs:List Value) (t e:Nat) (h:t≤e) (r:IW vs t):IW vs e:=Cy (r) fun ts a b c d=>(GZ ts a b c (fun u k=>⟨(d u k).1,Nat.lt_of_lt_of_le (d u k).2 h⟩))
set_option tactic.hygienic true in
theorem OQ {vs:List Value} {t u g:Nat} {i:Int} (r:IW vs t) (e:t≤u) (l:0<u) (f:u<g):IW (vs++[.int i u]) g:=by
 refine Cy (r) fun ts a b c d=>?_;refine(GZ (ts++[u]) (by simp [a]) (fun k j w h=>?_) ?_ (fun w q=>?_))
 ·rw [List.getElem?_append]at h ⊢;refine Ar a ?_;split at h
  ·rename_i hk;refine Eq.trans (if_pos hk) ?_;exact b k j w h
  ·rename_i hk;refine Eq.trans (if_neg hk) ?_;rcases cq:k-vs.length with _ | m
   ·replace h:=cq▸h;simp at h ⊢;exact h.2
   ·replace h:=cq▸h;injection h
 ·rw [List.pairwise_append];refine(B2 c (List.pairwise_singleton _ _) (fun x o y p=>?_))
  refine AB (List.mem_singleton.mp p) ?_;exact Nat.lt_of_lt_of_le (d x o).2 e
 ·refine Or.elim (List.mem_append.mp q) (fun h=>?_) (fun h=>?_)
  ·exact⟨(d w h).1,Nat.lt_of_lt_of_le (d w h).2 (AJ e (Nat.le_of_lt f))⟩
  ·refine AB (List.mem_singleton.mp h) ?_;exact⟨l,f⟩
theorem Sv {vs:List Value} {t:Nat} (r:IW vs t):PT vs:=fun u D v q i A j E s p=>by
 refine Cy (r) fun ts a b c d=>?_;refine Ap (List.mem_iff_getElem?.mp D) fun k z=>?_;refine Ap (List.mem_iff_getElem?.mp q) fun l hl=>?_;have m:=b k i A (by refine Eq.trans z ?_;refine AB s ?_;rfl);have y:=b l j E (by refine Eq.trans hl ?_;refine AB p ?_;rfl);refine⟨Nat.ne_of_gt (d A (List.mem_of_getElem? m)).1,fun e=>?_⟩
 subst e;have o:k=l:=by
  refine Or.elim (Nat.lt_trichotomy k l) (fun h=>?_) (fun x=>Or.elim x (fun h=>?_) (fun h=>?_))
  ·refine Ap (List.getElem?_eq_some_iff.mp m) fun f C=>?_;refine Ap (List.getElem?_eq_some_iff.mp y) fun g B=>?_;exact absurd (C.trans B.symm) (Nat.ne_of_lt (List.pairwise_iff_getElem.mp c k l f g h))
  ·exact h
  ·refine Ap (List.getElem?_eq_some_iff.mp m) fun f C=>?_;refine Ap (List.getElem?_eq_some_iff.mp y) fun g B=>?_;exact absurd (B.trans C.symm) (Nat.ne_of_lt (List.pairwise_iff_getElem.mp c l k g f h))
 clear y;subst o;replace hl:=z.symm.trans hl;clear q;obtain rfl:=(Ai hl)
 obtain⟨rfl,-⟩:=PySem.Value.int.inj ((s.symm.trans p));rfl
theorem K9 {h:Type} {xs:List h} : (xs.filter fun z=>true)=xs:=List.filter_eq_self.mpr fun z z=>rfl
noncomputable def aO (w:Wd) (op:Operator) (a b:FV) (c:Int):Prop:=∀ (A:Around) (s:Shared) (Q:Value→Shared→Prop) (E:Value→Shared→Prop) (va vb:Value),
 A.handled=none→BZ a va→BZ b vb→Q (.int c s.toks) { s with toks:=s.toks+1 }→wpAny (MD w) A (binaryOp op va vb) Q E s
section
variable {w:Wd} {names:BC} {n:Nat} {pe:PE} {i j:Int}
theorem Sw:aO w .Sub (.int i) (.int j) (i-j):=fun A s Q E g x y e k h=>Fv e k fun t u=>PyProof.Rows.sub_int h
theorem M9 (k:IntMulOk i j):aO w .Mult (.int i) (.int j) (i*j):=fun A s Q E a y g x e h=>Fv x e fun t u=>PyProof.Rows.mul_int h k
theorem Ju {l r:Expr} {op:Operator} {a b:FV} {c:Int} {T:Prop} (m:T) (hl:Ev w names n pe l (.fv a)) (p:Ev w names n pe r (.fv b)) (o:aO w op a b c):Wh w names n pe (.BinOp l op r pos) (.fv (.int c)) IW T:=
 fun A env s Q E C u h=>wpAny_BinOp (Ak (hl A env s _ _ C fun t s₁ k d y=>Ak (p A env s₁ _ _ (C.step k) fun f g e q x=>
  o A g _ _ t f ((C.step k).step e).ok.h d q (h _ _ ((k.trans e).trans (Step.Bu _)) ⟨_,rfl⟩ fun vs j=>OQ j (AJ y x) (Nat.lt_of_lt_of_le (u m) (AJ y x)) (Nat.lt_succ_self _)))))
theorem Ev.KS {ns:List Int} (h:Ev w names n pe e (.BN ns)):Ev w names n pe e (.list (A5 ns)):=fun A env s Q E C k=>
 h A env s Q E C fun v s' x r=>k v s' x (CQ (r) fun a vs e l f z=>(Bl a vs e l f))
noncomputable def gT (g:FV→Int) (r:Row):FV:=match r with
 |[(_,.fv f)]=>.int (g f)
 |_=>.none
theorem Sx {x:Str} {g:FV→Int} (U:Ev w names n pe iter (.list xs))
  (I:(Au names sc.names).lookup x=some .local) (l:A3 names sc.names pe x=none)
  (F:namesOk sc.names=true) (G:sc.kind = .function) (a:∀ x∈sc.names,x.2 = .local→sc.names.lookup x.1=some .local) (c:Ci names sc.names pe=true)
  (b:∀ f∈xs,Wh w (Au names sc.names) n ((A3 names sc.names pe).set x (.fv f)) elt (.fv (.int (g f))) IW True) (T:xs.length≤1000)
  (O:autoParam (∀ env x,foldedSetIterable iter env x=pure x) Me) :
  Ev w names n pe (.ListComp elt [⟨.Name x px,iter,[],0⟩] sc pos) (.BN (xs.map g)):=fun A env s Q E C k=>by
 refine AB (eval_ListComp ..) ?_;refine Gb (rows:=xs.map fun f=>[(x,.fv f)]) (p:=fun j=>true) (g:=gT g) C (src_list U (.inl I) l) F G a c
  (fun r u q S=>?_) (fun r u=>rfl) IW QL OP (fun r u j=>?_) (by simpa using T) (O env) fun D V vs s' m N X hl v R K L=>?_
 ·refine AF (List.mem_map.mp u) fun f j y=>?_;obtain rfl:=y;refine AB (List.mem_singleton.mp S) ?_;exact l
 ·refine AF (List.mem_map.mp u) fun f v h=>?_;clear u;obtain rfl:=h;exact fun A env s Q E C P k=>b f v A env s Q E C (fun j=>P I) k
 ·refine(AQ m K (fun B H=>?_))
  refine BR (K) fun o es W e d j=>?_;refine Ap (hl) fun M J=>?_;have z:B.PlainList D vs.toArray:=⟨M,(H.2 D (by rintro rfl;obtain rfl:=(B6 J e);injection d)).trans J⟩
  refine k (.ref D) _ (N.write (t:=s'.toks) C.gh H L e fun vs q=>by injection (d.symm.trans q)) (E9 D vs rfl z.isList ?_ (Sv R));have:(((xs.map fun f=>([(x,PV.fv f)]:Row)).filter fun j=>true).map (gT g))=(xs.map g).map .int:=by
   refine AB K9 ?_;refine Eq.trans List.map_map ?_;refine AB List.map_map ?_;rfl
  rwa [this]at v
end
theorem QM {h:Shared} {kw:List (Str×Value)} (k:BS w (m+1) A h):BS w m (A.under (.builtin "type.__call__" ⟨.ref C::vals,kw⟩)) h:=by
 have e:(Code.builtin "type.__call__" ⟨.ref C::vals,kw⟩).cUnits=1:=by kernel_rfl
 refine⟨k.h,?_,?_,?_,k.tk⟩
 ·have:=k.d;exact VT this
 ·have:=k.u;show A.units+(Code.builtin "type.__call__" ⟨.ref C::vals,kw⟩).cUnits+20*m≤9000;exact VK this
 ·refine AF (k.f) fun l a b=>?_;refine(AQ l ?_ b)
  refine AB (rfl:(Code.builtin "type.__call__" ⟨.ref C::vals,kw⟩).envs=[]) ?_;refine AB a ?_;rfl
theorem Gl {fI:Addr} {kw:List (Str×Value)} (G:GH w s.heap) (l:BS w (m+1) A s) (i:makesIn (K0 w.w.params) C=true)
  (u:findIn (K0 w.w.params) (.ref C) "__init__" = some (some (.ref fI))) (f:typeIn (K0 w.w.params) (.ref fI)=some (.type "function"))
  (h:∀ a (w':Wd) s₁,w'=w.wit [(s.heap.objs.size+1,AX C s.heap.objs.size #[])] [s.heap.objs.size]→s₁={ s with heap:=(s.heap.push emptyDict).push (AX C s.heap.objs.size #[]) }→BS w' m a s₁→GH w' s₁.heap→Aq w' (s.heap.objs.size+1) s.heap.objs.size C #[]→w.base.get? (s.heap.objs.size+1)=none→Step w s s₁→
   codeAny (MD w') a (.call (.ref fI) ⟨.ref (s.heap.objs.size+1)::vals,kw⟩) (fun r s'=>match r with | .ok (.ret v)=>v = .none∧Q (.ref (s.heap.objs.size+1)) s' | .ok _=>False | .error e=>E e s') s₁) :
  wpAny (MD w) A (call (.ref C) vals kw) Q E s:=by
 have x:Step w s { s with heap:=(s.heap.push emptyDict).push (AX C s.heap.objs.size #[]) }:=(Step.push s _).trans (Step.push { s with heap:=s.heap.push emptyDict } _);have c:w.base.get? (s.heap.objs.size+1)=none:=by
  cases e:w.base.get? (s.heap.objs.size+1)with
  |none=>rfl
  |some o=>obtain⟨o',n⟩:=G.sub _ _ e;injection ((Heap.get?_none_of_le (Nat.le_succ _)).symm.trans n)
 have y:((s.heap.push emptyDict).push (AX C s.heap.objs.size #[])).get? (s.heap.objs.size+1)=some (AX C s.heap.objs.size #[]):=by
  have:=BD (s.heap.push emptyDict) (o:=AX C s.heap.objs.size #[]) rfl;rwa [Heap.size_push]at this
 have b:((s.heap.push emptyDict).push (AX C s.heap.objs.size #[])).get? s.heap.objs.size=some emptyDict:=Br _ (BD _ rfl);have j:=h (A.under (.builtin "type.__call__" ⟨.ref C::vals,kw⟩)) _ _ rfl rfl ((QM l).step x).wit ((x.gh G).wit (fun p q=>by
  refine AB (List.mem_singleton.mp q) ?_;exact⟨y,(AH _ _ _).c1,(AH _ _ _).d1⟩) fun d hd=>by refine AB (List.mem_singleton.mp hd) ?_;exact⟨_,b⟩) ⟨List.mem_singleton.mpr rfl,List.mem_singleton.mpr rfl⟩ c x
 clear x y b c;obtain⟨B,g,d,t,os⟩:=s;refine wpAny_call (make_core (makes_of G.kin i) (looks_findIn G.kin u) (fun k=>bind_fn G.kin k f) (.inl rfl) ?_);refine codeAny_mono j fun r s' z=>?_;rcases r with e | (v | _ | _ | _)<;>exact z
theorem CB {o:Obj} : put (put s a o) a o'=put s a o':=by
 obtain⟨⟨objs,l⟩,g,d,t,os⟩:=s;show({ heap:=⟨(objs.modify a fun z=>o).modify a fun z=>o',l⟩,gens:=g,drawn:=d,toks:=t,os:=os } : Shared)={ heap:=⟨objs.modify a fun z=>o',l⟩,gens:=g,drawn:=d,toks:=t,os:=os }
 congr 2
 apply Array.ext_getElem?;intro i;rw [Array.getElem?_modify,Array.getElem?_modify,Array.getElem?_modify]
 by_cases h:a=i
 ·subst h;cases objs[a]?<;>simp
 ·simp [h]
section
variable {w:Wd} {names:BC} {n:Nat} {pe:PE} {i j:Int}
theorem Uw:R1 w .LtE (.int i) (.int j) (decide (i≤j)):=fun A s Q E g x y e k h=>Fv e k fun t u=>Ak (PyProof.Rows.le_int (h _))
theorem H7 {l:Expr} {r:Expr} {e:List Expr} {a:Bool} (hl:Ev w names n pe l (.fv (.bool a))) (d:a=true→Ev w names n pe (.BoolOp .And (r::e) pos) (.fv (.bool b))) :
  Ev w names n pe (.BoolOp .And (l::r::e) pos) (.fv (.bool (a&&b))):=fun A env s Q E C k=>
 BoolOp_and (hl A env s _ E C fun v s₁ h x=>by
  obtain rfl:=x;refine wpAny_truthy_bool ?_;clear hl;induction a with
  |true=>exact d rfl A env s₁ Q E (C.step h) fun v c g y=>k v c (h.trans g) y
  |false=>exact k _ s₁ h rfl)
theorem M' {l:Expr} (hl:Ev w names n pe l pv):Ev w names n pe (.BoolOp .And [l] pos) pv:=fun A env s Q E C k=>BoolOp_one (hl A env s Q E C k)
theorem OR {T X:String} {x:Str} {c:Pos} (d:Ev w names n pe e (.raw (.type T))) (g:GV x (.type X)) (a:names.lookup x=some .globalImplicit) (f:(Value.type T==Value.type X)=b) (hd:autoParam ((x==("__debug__" : Str))=false) Dy) :
  Tr w names n pe (.Compare e [.Is] [.Name x c] pos) b:=fun A env s Q E C k=>
 wpAny_isTrue_Compare1 (d A env s _ E C fun l s₁ h y=>BF (C.step h) g a (by
  refine AB y ?_;refine wpAny_is_plain rfl (wpAny_truthy_bool ?_);refine AB f ?_;exact k s₁ h) hd) (by with_unfolding_all rfl)
end
theorem V0:GV "int" (.type "int"):=Bp (fun z=>rfl) rfl (by decide)
theorem Ux {i:Int} : Dm w (n+1) (.ref 224) [.fv (.int i)] [] [] (.ret (.fv (.int 0))):=by
 refine Jk (o:=KY) (fd:=fdOf KY) (body:=Ag (BM 12)) (bs:=[("x",.fv (.int i))]) rfl rfl rfl rfl (fun vs ks h e g=>?_) (fun h G=>codeRec_of G.kin (by kernel_rfl)) (fun p y=>?_) ?_ rfl rfl rfl rfl rfl rfl
 ·refine AF (BP e) fun v k x=>?_;clear e;obtain rfl:=k;obtain rfl:=A6 g;exact⟨[("x",v)],fun S=>rfl,rfl,x,trivial⟩
 ·refine AB (List.mem_singleton.mp y) ?_;exact .inl rfl
 ·refine AN (AL (pv:=.raw (.type "int")) (Eo GF rfl (nm:=[]) rfl rfl (AE (AA rfl) AK) Ad M4) (.inl rfl)) ?_;refine Er (An (FC (CM (a:=true) (b:=false) (OR (AA rfl) V0 rfl rfl) fun h=>by injection h)) rfl) ?_;exact CA (AV _ _ _)
theorem Uy:GV "_count_kind" (.ref 224):=BE fun z=>rfl
theorem QN:GV "_MAXSIZE" (.int 9223372036854775807 478):=BE fun z=>rfl
theorem CC (h:K6 (.fv (.bool b)) v):v = .bool b:=Ap (h) fun z r=>r
theorem C9 {i:Int} (h:K6 (.fv (.int i)) v):∃ t,v = .int i t:=Ap (h) fun z r=>r
theorem Cj {u:Value} (h:K6 (.raw u) v):v=u:=Ap (h) fun z r=>r
theorem Dd (h:K6 (.fv .none) v):v = .none:=Ap (h) fun z r=>r
noncomputable def CP (i:Int) (t u:Tok):Array (Option Value):=#[some (.int i t),some (.bool true),some (.int 1 u)]
set_option maxHeartbeats 1000000 in
theorem MI {c:Addr} (G:GH w s.heap) (z:BS w (n+2) A s) (I:Aq w a c 265 #[]) (l:w.base.get? a=none)
  (k:∀ t u s',Step w (put s a (AX 265 c (CP 0 t u))) s'→Q .none s') :
  codeAny (MD w) A (.call (.ref 240) ⟨[.ref a],[]⟩) (DH Q E) s:=by
 refine CF (n:=n+1) (o:=PB) (fd:=fdOf PB) (body:=Ag (BQ 13 1)) (bs:=[("self",.raw (.ref a)),("start",.fv (.int 0)),("step",.fv (.int 1))]) (binds:=[("self",.ref a),("start",.int 0 672),("step",.int 1 673)])
  (R:=fun out sg=>∃ t u,out = .ret (.fv .none)∧sg=put s a (AX 265 c (CP 0 t u)))
  G z rfl rfl rfl (fun S=>rfl) (fun h G=>codeRec_of G.kin (by kernel_rfl)) rfl rfl (EX rfl ⟨_,rfl⟩ ⟨_,rfl⟩ trivial) (fun p B=>?_) ?_ (fun cls sg h=>by refine CD (h) fun j j h j=>?_;injection h) (fun pv sg v s' zq x r=>?_) (fun cls sg e s' h=>by refine CD (h) fun j j h j=>?_;injection h) rfl rfl rfl rfl rfl rfl
 ·exact locs (by rfl) p B
 ·refine Ca (AL (pv:=.fv (.int 0)) (Hm (o:=KY) Uy rfl rfl rfl rfl (nm:=[]) rfl (AE (AA (pv:=.fv (.int 0)) rfl) AK) Ad Ux.r) (.inl rfl)) ?_;refine Ca (AL (pv:=.fv (.int 0)) (Hm (o:=KY) Uy rfl rfl rfl rfl (nm:=[]) rfl (AE (AA (pv:=.fv (.int 1)) rfl) AK) Ad Ux.r) (.inl rfl)) ?_;refine Dq (An (FC (CM (a:=false) (b:=false) (BU (AA rfl) (AV _ _ _) Cv) fun j=>CM (a:=false) (b:=false) (BU (AA rfl) (AV _ _ _) Cv) fun j=>Fd)) rfl) ?_;refine Ca (AL (pv:=.fv (.bool true)) (H7 (a:=true) (b:=true) (C4 (AA rfl) (AV _ _ _) Cv) fun j=>H7 (a:=true) (b:=true) (C4 (AA rfl) (AV _ _ _) Cv) fun j=>H7 (a:=true) (b:=true) (C4 (AA rfl) (AV _ _ _) Cv) fun j=>
   H7 (a:=true) (b:=true) (C4 (AI (Jr (BI (f:=.int 9223372036854775807) (FG QN rfl) ⟨_,rfl⟩)) (AV _ _ _) CL) (AA rfl) Uw) fun j=>M' (C4 (AA rfl) (BI (f:=.int 9223372036854775807) (FG QN rfl) ⟨_,rfl⟩) Uw)) (.inl rfl)) ?_
  refine HS (An (Az (f:=.bool true) (AA rfl)) rfl) ?_;refine Ca (AL (pv:=.fv (.int 0)) (AI (a:=.int 0) (b:=.int 0) (AA rfl) (AV _ _ _) En) (.inl rfl)) ?_;refine Aw (a:=a) rfl (AA (pv:=.fv (.bool true)) rfl) I Xv l (fun F d=>?_);refine AB (CC d) ?_;refine Aw (a:=a) rfl (AA (pv:=.fv (.int 0)) rfl) I.hit QK l (fun C m=>?_);refine Ap (C9 m) fun t y=>?_;obtain rfl:=y;refine Aw (a:=a) rfl (AA (pv:=.fv (.int 1)) rfl) I.hit.hit Uu l (fun D q=>?_);refine Ap (C9 q) fun u g=>?_;obtain rfl:=g;exact HR (Dj t u rfl (by refine Eq.trans CB ?_;refine Eq.trans CB ?_;rfl))
 ·refine CD zq fun t u d m=>?_;obtain rfl:=(Internal.Out.ret.inj d);obtain rfl:=r;subst m;exact k t u s' x
structure Am (h:Heap) (a dx C:Addr) (sl:Array (Option Value)):Prop where
 a:h.get? a=some (AX C dx sl)
 d:∃ sd,h.get? dx=some { cls:=.type "dict",data:=.dict #[],slots:=sd }
theorem Am.step {h:Addr} {k:Array (Option Value)} (I:Am s.heap a h C k) (x:Step w s s') (G:GH w s.heap):Am s'.heap a h C k:=
 ⟨x.get G I.a (AH _ _ _).nt (AH _ _ _).d1,Ap (I.d) fun g e=>Ap (x.EZ _ _ e (DB _ _ rfl)) fun sl' y=>⟨sl',y⟩⟩
theorem Step.MJ {o:Obj} (h:Step w s s₁) (G:GH w s.heap) (f:s.heap.get? a=none) (e:s₁.heap.get? a=some o) (m:CE o) (x:Step w (Internal.put s₁ a o') s'):Step w s s':=
 (h.upd (t:=s₁.toks) G (Heap.SameBut.update s₁.heap a _) f e m.d4).trans x
theorem LA {fI:Addr} {kw:List (Str×Value)} {P:Array (Option Value)→Shared→Prop} (G:GH w s.heap) (F:BS w (m+1) A s) (L:makesIn (K0 w.w.params) C=true)
  (N:findIn (K0 w.w.params) (.ref C) "__init__" = some (some (.ref fI))) (B:typeIn (K0 w.w.params) (.ref fI)=some (.type "function"))
  (M:∀ f (w':Wd) s₁ a c (p:Value→Shared→Prop) (J:Value→Shared→Prop),w'.w=w.w→GH w' s₁.heap→BS w' m f s₁→Aq w' a c C #[]→w'.base.get? a=none→Step w s s₁→(∀ h s',P h s'→Step w' (put s₁ a (AX C c h)) s'→p .none s')→
   codeAny (MD w') f (.call (.ref fI) ⟨.ref a::vals,kw⟩) (fun r s'=>match r with | .ok (.ret v)=>p v s' | .ok _=>False | .error e=>J e s') s₁)
  (k:∀ a c h s',P h s'→Step w s s'→s.heap.get? a=none→s.heap.get? c=none→Am s'.heap a c C h→w.base.get? a=none→Q (.ref a) s') :
  wpAny (MD w) A (call (.ref C) vals kw) Q E s:=by
 refine Gl G F L N B fun f w' s₁ u q l K I z y=>?_;have g:w'.base=w.base:=by refine AB u ?_;rfl
 refine M f w' s₁ _ _ (fun v s'=>v = .none∧Q (.ref (s.heap.objs.size+1)) s') E (by refine AB u ?_;rfl) K l I (by refine AB g ?_;exact z) y fun h s' D x=>⟨rfl,?_⟩
 have t:s₁.heap.get? (s.heap.objs.size+1)=some (AX C s.heap.objs.size #[]):=by
  refine AB q ?_;have:=BD (s.heap.push emptyDict) (o:=AX C s.heap.objs.size #[]) rfl;rwa [Heap.size_push]at this
 have O:s₁.heap.get? s.heap.objs.size=some emptyDict:=by refine AB q ?_;exact Br _ (BD _ rfl)
 have j:s.heap.get? (s.heap.objs.size+1)=none:=Heap.get?_none_of_le (Nat.le_succ _);have i:Step w (put s₁ (s.heap.objs.size+1) (AX C s.heap.objs.size h)) s':=by
  refine⟨fun b o n d e=>x.keep b o n (by refine AB g ?_;exact d) e,x.EZ,x.grow,x.tabs,x.os,x.gens,x.tk⟩
 refine k _ s.heap.objs.size h s' D (y.MJ G j t (AH _ _ _) i) j (fresh_at _) ⟨?_,?_⟩ z
 ·exact i.keep _ _ (HO G j) (fun Z=>(AH _ _ _).d1) (Bk t rfl)
 ·refine Ap (i.EZ s.heap.objs.size _ (((Heap.SameBut.update s₁.heap (s.heap.objs.size+1) fun Z=>AX C s.heap.objs.size h).2 _ (Nat.ne_of_lt (Nat.lt_succ_self _))).trans O) (DB _ _ rfl)) fun sl' H=>?_;exact⟨_,H⟩
set_option maxHeartbeats 1000000 in
theorem MK {i:Int} (G:GH w s.heap) (l:BS w (n+1) A s) (I:Aq w a d 265 (CP i t u)) (z:w.base.get? a=none)
  (k:∀ y s',Step w (put s a (AX 265 d (CP (i+1) y u))) s'→Q (.int i t) s') :
  codeAny (MD w) A (.call (.ref 254) ⟨[.ref a],[]⟩) (DH Q E) s:=by
 refine CF (n:=n) (o:=PD) (fd:=fdOf PD) (body:=Ag (BQ 13 3)) (bs:=[("self",.raw (.ref a))]) (binds:=[("self",.ref a)])
  (R:=fun out sg=>∃ y,out = .ret (.raw (.int i t))∧sg=put s a (AX 265 d (CP (i+1) y u)))
  G l rfl rfl rfl (fun S=>rfl) (fun h G=>codeRec_of G.kin (by kernel_rfl)) rfl rfl ⟨rfl,trivial⟩ (fun p m=>?_) ?_ (fun cls sg c=>by refine AF (c) fun Z h Z=>?_;injection h) (fun pv sg v s' zq x r=>?_) (fun cls sg e s' j=>by refine AF (j) fun Z h Z=>?_;injection h) rfl rfl rfl rfl rfl rfl
 ·refine AB (List.mem_singleton.mp m) ?_;exact .inl rfl
 ·refine Ca (AL (pv:=.raw (.int i t)) (A8 (a:=a) rfl I QK rfl) (.inl rfl)) ?_;refine Aw (a:=a) rfl (AI (a:=.int i) (b:=.int 1) (BI (AA rfl) ⟨_,rfl⟩) (BI (A8 (a:=a) rfl I Uu rfl) ⟨_,rfl⟩) En) I QK z (fun B f=>?_);refine Ap (C9 f) fun y g=>?_;obtain rfl:=g;exact Jt (pv:=.raw (.int i t)) (AA rfl) (AQ y rfl rfl)
 ·refine AF zq fun y f q=>?_;obtain rfl:=(Internal.Out.ret.inj f);obtain rfl:=r;subst q;exact k y s' x
theorem Gm {f:Addr} {o:Obj} {C:Pos} (G:GH w s.heap) (z:BS w (n+1) A s)
  (B:(K0 w.w.params).lookup f=some o) (g:o.data = .func fd) (y:fd.body = .stmts [.Return (some (.Name "self" np)) C]) (H:∀ S,peek (K0 w.w.params) S (bindArgs fd ⟨[.ref a],[]⟩)=some [(("self" : Str),Value.ref a)]) (l:∀ h,GH w h→h.CodeRec fd.code fd.qualname)
  (m:fd.closure=[]) (i:fd.scope.names.lookup ("self" : Str)=some NameKind.local) (t:namesOk fd.scope.names=true) (d:fd.globals=mainGlobals) (j:fd.builtins=builtinsNs) (u:fd.scope.isCoroutine=false) (b:fd.scope.isGenerator=false) (I:fd.scope.kind = .function)
  (k:∀ s',Step w s s'→Q (.ref a) s'):wpAny (MD w) A (call (.ref f) [.ref a] []) Q E s:=by
 refine wpAny_call (CF (n:=n) (bs:=[("self",.raw (.ref a))]) (R:=fun out sg=>out = .ret (.raw (.ref a))∧sg=s) G z B g y H l m rfl ⟨rfl,trivial⟩ (fun p J=>by refine AB (List.mem_singleton.mp J) ?_;exact .inl i) ?_
  (fun cls sg q=>by refine Bt (q) fun h Z=>?_;injection h) (fun pv sg v s' zq x r=>?_) (fun cls sg e s' c=>by refine Bt (c) fun h Z=>?_;injection h) t d j u b I)
 ·exact Jt (pv:=.raw (.ref a)) (AA rfl) ⟨rfl,rfl⟩
 ·refine Bt zq fun F D=>?_;obtain rfl:=(Internal.Out.ret.inj F);obtain rfl:=r;clear z G;subst D;exact k s' x
structure Mv (w:Wd) (s₀:Shared) (M:List Addr) (s s':Shared):Prop where
 st:Step w s₀ s'
 kp:∀ b o,b∉M→¬Co o→¬Af o→s.heap.get? b=some o→s'.heap.get? b=some o
 dc:∀ b o,b∉M→Af o→s.heap.get? b=some o→∃ sl,s'.heap.get? b=some { o with slots:=sl }
 tk:s.toks≤s'.toks
section
variable {w:Wd} {s₀ s s' aP:Shared} {M:List Addr} {a:Addr} {o:Obj}
theorem Mv.refl (x:Step w s₀ s):Mv w s₀ M s s:=⟨x,fun z z z z z e=>e,fun z o z z e=>⟨o.slots,e⟩,Nat.le_refl _⟩
theorem Mv.trans (x:Mv w s₀ M s s') (y:Mv w s₀ M s' aP):Mv w s₀ M s aP:=
 ⟨y.st,fun b o m n d e=>y.kp b o m n d (x.kp b o m n d e),fun b o m d e=>Ap (x.dc b o m d e) fun c g=>Ap (y.dc b _ m (by refine Bj (d) fun es k q=>?_;exact⟨es,k,q⟩) g) fun sl' h=>⟨sl',h⟩,AJ x.tk y.tk⟩
theorem Mv.step (G:GH w s₀.heap) (x:Step w s₀ s) (y:Step w s s'):Mv w s₀ M s s':=⟨x.trans y,fun b o z n d e=>y.get (x.gh G) e n d,fun b o z d e=>y.EZ b o e d,y.tk⟩
theorem Mv.upd {t:Nat} (G:GH w s₀.heap) (x:Step w s₀ s) (y:a∈M) (f:s₀.heap.get? a=none) (e:s.heap.get? a=some o) (n:Iw o) (k:Heap.SameBut a s.heap h') (c:autoParam (s.toks≤t) Nt):Mv w s₀ M s { s with heap:=h',toks:=t }:=
 ⟨x.upd G k f e n,fun b g m z z h=>(k.2 b (fun q=>m (q▸y))).trans h,fun b g m d h=>⟨g.slots,(k.2 b (fun q=>m (q▸y))).trans h⟩,c⟩
theorem Mv.ext {t:Nat} (G:GH w s₀.heap) (x:Step w s₀ s) (c:a∈M) (f:s₀.heap.get? a=none) (e:s.heap.get? a=some o) (n:HI o) (g:Heap.ExtBut a s.heap h') (i:autoParam (s.toks≤t) Nt):Mv w s₀ M s { s with heap:=h',toks:=t }:=
 ⟨x.many (wr:=[a]) G (fun b k m h=>g b k (fun q=>m (List.mem_singleton.mpr q)) h) (fun b y=>by refine AB (List.mem_singleton.mp y) ?_;exact f) (fun b y k h=>by replace h:=(List.mem_singleton.mp y)▸h;replace h:=e.symm.trans h;refine Ar (Ai h) ?_;exact n),
  fun b k m z z h=>g b k (fun q=>m (q▸c)) h,fun b k m d h=>⟨k.slots,g b k (fun q=>m (q▸c)) h⟩,i⟩
theorem BS.mv {M:List Addr} {k:Shared} (x:BS w n A s₁) (m:Mv w s₀ M s₁ k) (h:∀ b∈M,∀ o,s₁.heap.get? b=some o→¬Af o):BS w n A k:=
 ⟨x.h,x.d,x.u,(AF (x.f) fun c i y=>⟨c,i,y.EZ fun a o z e d=>Ap (m.dc a o (fun q=>h a q o e d) d e) fun j g=>⟨_,g,d⟩⟩),Nat.lt_of_lt_of_le x.tk m.tk⟩
theorem Am.mv {h:Addr} {k:Array (Option Value)} (I:Am s.heap a h C k) (x:Mv w s₀ M s s') (g:a∉M) (b:h∉M):Am s'.heap a h C k:=
 ⟨x.kp a _ g (AH _ _ _).nt (AH _ _ _).d1 I.a,Ap (I.d) fun c e=>Ap (x.dc h _ b ⟨_,_,rfl⟩ e) fun sl' y=>⟨sl',y⟩⟩
theorem Am.at (I:Am s.heap a dx C sl) : ∃ h,InstAt s.heap a (AX C dx sl) C (some h)∧shadowIn (some h) name=some false:=by
 refine Ap (I.d) fun e k=>?_;exact(AQ _ ⟨I.a,rfl,rfl,k⟩ (by rfl))
theorem Am.in {k:Addr} {e:Array (Option Value)} (G:GH w h) (I:Am h a k C e):GH (w.wit [(a,AX C k e)] [k]) h∧Aq (w.wit [(a,AX C k e)] [k]) a k C e:=
 ⟨G.wit (fun p x=>by refine AB (List.mem_singleton.mp x) ?_;exact⟨I.a,(AH _ _ _).c1,(AH _ _ _).d1⟩) fun d hd=>by refine AB (List.mem_singleton.mp hd) ?_;exact I.d,⟨List.mem_singleton.mpr rfl,List.mem_singleton.mpr rfl⟩⟩
theorem DW {c f:Addr} {l:Array (Option Value)} {Q:Option Value→Shared→Prop} (G:GH w s.heap) (I:Am s.heap a c C l) (i:findIn (K0 w.w.params) (.ref C) "__next__" = some (some (.ref f))) (g:typeIn (K0 w.w.params) (.ref f)=some (.type "function"))
  (h:wpAny (MD w) A (call (.ref f) [.ref a]) (fun v s'=>Q (some v) s') (fun e s'=>wpAny (MD w) A (isInstance e (.type "StopIteration")) (fun b k=>if b=true then Q none k else E e k) E s') s):wpAny (MD w) A (pyNext (.ref a)) Q E s:=by
 refine AF (I.at (name:="")) fun m y u=>?_;refine AD (wpAny_attempt (special_fn (name:="__next__") (args:=[]) G.kin y i g (wpAny_mono h (fun v s' j=>?_) (fun e s' d=>?_))))
 ·exact AM j
 ·refine AD (wpAny_mono d (fun b k x=>?_) fun u u z=>z)
  induction b with
  |true=>exact AM x
  |false=>exact wpAny_throw x
theorem LB {y f:Addr} {d:Array (Option Value)} (G:GH w s.heap) (I:Am s.heap a y C d) (b:findIn (K0 w.w.params) (.ref C) "__next__" = some (some (.ref f))) (x:typeIn (K0 w.w.params) (.ref f)=some (.type "function"))
  (h:wpAny (MD w) A (call (.ref f) [.ref a]) Q E s):wpAny (MD w) A (Builtin.SmallTypes.nextOf (.ref a)) Q E s:=by
 refine AF (I.at (name:="")) fun i k z=>?_;refine AD (special_fn (name:="__next__") (args:=[]) G.kin k b x (wpAny_mono h (fun v s' c=>?_) (fun e s' g=>g)));exact AM c
theorem Gn {f:Addr} {g:Value} {t:Array (Option Value)} (G:GH w s.heap) (I:Am s.heap a l C t) (j:findIn (K0 w.w.params) (.ref C) "__iter__" = some (some (.ref f))) (i:typeIn (K0 w.w.params) (.ref f)=some (.type "function"))
  (n:findIn (K0 w.w.params) (.ref C) "__next__" = some (some g))
  (h:wpAny (MD w) A (call (.ref f) [.ref a]) (fun v s'=>v = .ref a∧Step w s s'∧Q (.ref a) s') E s):wpAny (MD w) A (pyIter (.ref a)) Q E s:=by
 refine AF (I.at (name:="")) fun u d o=>?_;have X:=G.kin;have b:wpAny (MD w) A (call (.ref f) [.ref a]>>=fun v=>pure (some v)) (fun r s'=>r=some (.ref a)∧Step w s s'∧Q (.ref a) s') E s:=
  AD (wpAny_mono h (fun v s' h'=>AM ⟨by exact congrArg _ h'.1,h'.2⟩) fun o o z=>z)
 have c:∀ k:Sem Value,wpAny (MD w) A (callSpecialIfBoundUnlessNone? (.ref a) "__iter__" k) (fun r s'=>r=some (.ref a)∧Step w s s'∧Q (.ref a) s') E s:=by
  intro k;refine wpAny_holding (AD (AD (AD (d.type.here ((looks_findIn X j).here ?_)))));refine AD (wpAny_askSetting (wpAny_ite ?_));have e:wpAny (MD w) A (if(Value.ref f==Value.none)=true then(k>>=fun v=>pure (some v))else(call (.ref f) [.ref a]>>=fun v=>pure (some v))) (fun r s'=>r=some (.ref a)∧Step w s s'∧Q (.ref a) s') E s:=by
   refine AB (if_neg (show ¬((Value.ref f==Value.none)=true)from Bool.false_ne_true)) ?_;exact b
  split
  ·exact AD ((bind_fn X _ i).here (AM e))
  ·exact wpAny_tryCatch (AD ((bind_fn X _ i).here (AM e)))
 refine AD (AD (d.type.here ((looks_findIn X j).here ?_)));refine AD (wpAny_mono (c _) (fun r s' m=>?_) fun o o z=>z);refine W' (m) fun x q=>?_;refine AF ((I.step x G).at (name:="")) fun p y o=>?_;refine AD (AD (y.type.here ((looks_findIn (x.gh G).kin n).here ?_)));exact AM q
end
theorem BS.in1 {h:Shared} (k:BS w (n+1) A h):BS w n A.in1 h:=⟨k.h,by have:=k.d;show A.depth+n≤900;exact Nat.le_of_succ_le this,by have:=k.u;show A.units+1+20*n≤9000;exact VK this,k.f,k.tk⟩
section
variable {w:Wd} {A:Around} {E:Value→Shared→Prop} {s:Shared}
theorem ML {T x:String} {B:Builtin} {args:List Value} (g:TypeCalled T x "object.__init__")
  (m:(some x != some "object.__new__")=true) (I:checkTypeCall T ⟨args,[]⟩=pure ()) (p:checkBuiltinCall x ⟨.type T::args,[]⟩=pure ())
  (n:∀ k,argsOk "object.__init__" ⟨k::args,[]⟩) (a:entryFor table x=some B)
  (h:wpAny (MD w) A.in1.in1 (B ⟨.type T::args,[]⟩) (fun d s'=>∃ k,d = .done (.ret k)∧s'.TypeIs k T∧Q k s') E s):wpAny (MD w) A (call (.type T) args) Q E s:=by
 refine Bj (g.mro) fun c M C=>?_;have q:=g.made;have u:=g.sub;refine wpAny_call (codeAny_of_tree ?_);refine AM ⟨Code.quiet_builtin _ (by decide +kernel),codeAny_builtin F.entry_type_call ?_⟩;refine AB (Around.under_plain (weight_type_call_type T args []) (units_type_call_type T args [])) ?_;have L:=g.notType;have K:=g.canCreate
 repeat (any_goals (first | assumption | wp_step))
 refine codeAny_mono (codeAny_call_builtin (R:=fun r s'=>match r with | .ok (.ret k)=>s'.TypeIs k T∧Q k s' | .ok _=>False | .error e=>E e s') g.plain a (wpAny_of_eq p (wpAny_mono h (fun d s' t=>?_) fun Z Z z=>z))) fun r s₁ o=>?_
 ·refine AY (t) fun k i j l=>?_;clear t;obtain rfl:=i;exact⟨j,l⟩
 induction r with
 |error e=>exact o
 |ok H=>
  induction H with
  |ret k=>
   refine Bt (o) fun j l=>?_;have J:=g.init.lookup;have G:=g.init.bind k
   repeat (any_goals (first | assumption | wp_step))
   refine codeAny_mono (codeAny_call_builtin (args:=⟨k::args,[]⟩) (R:=fun r s'=>match r with | .ok (.ret v)=>v = .none∧Q k s' | .ok _=>False | .error e=>False) g.init.plain F.entry_object_init (g.init.check _ _ _ _ _ _ _ _ j (n k) (object_init_meets g.init.lookup g.made m PR w.w A.in1 (fun r s'=>match r with | .ok (.ret v)=>v = .none∧Q k s' | .ok _=>False | .error e=>False) s₁ ⟨j,rfl,l⟩))) fun f D y=>?_
   induction f with
   |error e=>exact y.elim
   |ok b=>
    induction b with
    |ret r=>
     refine W9 (y) fun l=>?_
     repeat (any_goals (first | assumption | wp_step))
    |_=>exact y.elim
  |_=>exact o.elim
end
noncomputable abbrev IX (f0 f1:Value) (TI TO:Addr):Obj:={ cls:=.type "zip",dict:=none,data:=.fields #[f0,f1,.bool false,.ref TI,.ref TO],slots:=#[] }
noncomputable abbrev AU (x y:Value):Obj:={ cls:=.type "tuple",data:=.seq #[x,y] }
structure ZF (w:Wd) (s₀:Shared) (z TI TO i1 ca Eb:Addr):Prop where
 g:GH w s₀.heap
 z:s₀.heap.get? z=none
 O:s₀.heap.get? TO=none
 i:s₀.heap.get? i1=none
 c:s₀.heap.get? ca=none
 d:s₀.heap.get? Eb=none
 IO:TI≠TO
 b:w.base.get? ca=none
structure ZS (w:Wd) (s₀:Shared) (l:Addr) (vs:Array Value) (z TI TO i1 ca Eb:Addr) (i:Nat) (f0 f1:Value) (t u:Tok) (s:Shared):Prop where
 st:Step w s₀ s
 hz:s.heap.get? z=some (IX f0 f1 TI TO)
 hI:s.heap.get? TI=some (AU (.ref i1) (.ref ca))
 hO:∃ a b,s.heap.get? TO=some (AU a b)
 it:s.heap.IsListIter i1 l i
 hl:s.heap.IsList l vs
 hc:Am s.heap ca Eb 265 (CP i t u)
 hf:(f0 = .none∧f1 = .bool false)∨(∃ (T:Addr) (b:Bool) (x y:Value),f0=rawInt T∧f1 = .bool b∧s.heap.get? T=some (AU x y)∧T≠TO)
theorem NA : findIn (K0 P) (.ref 265) "__next__" = some (some (.ref 254)):=by kernel_rfl
theorem Sy : findIn (K0 P) (.ref 265) "__iter__" = some (some (.ref 247)):=by kernel_rfl
theorem Sz : findIn (K0 P) (.ref 265) "__init__" = some (some (.ref 240)):=by kernel_rfl
theorem Xw : typeIn (K0 P) (.ref 254)=some (.type "function"):=by kernel_rfl
theorem Xx : typeIn (K0 P) (.ref 247)=some (.type "function"):=by kernel_rfl
theorem Xy : typeIn (K0 P) (.ref 240)=some (.type "function"):=by kernel_rfl
theorem QO : makesIn (K0 P) 265=true:=by kernel_rfl
section
variable {w:Wd} {s₀ s s':Shared} {A:Around} {E:Value→Shared→Prop} {n:Nat}
theorem LC {e h:Addr} {i:Int} {M:List Addr} (c:GH w s₀.heap) (r:BS w (n+1) A s) (x:Step w s₀ s) (I:Am s.heap e h 265 (CP i t u)) (D:s₀.heap.get? e=none) (C:w.base.get? e=none) (q:e∈M)
  (k:∀ g s',Mv w s₀ M s s'→Am s'.heap e h 265 (CP (i+1) g u)→Q (.int i t) s'):wpAny (MD w) A (Builtin.SmallTypes.nextOf (.ref e)) Q E s:=by
 have G:=x.gh c;obtain⟨F,H⟩:=I.in G;refine LB G I NA Xw (wpAny_call (MK (w:=w.wit [(e,AX 265 h (CP i t u))] [h]) (n:=n) F r.wit H C fun g s' y=>?_));have y:=y.Bd;have p:=Heap.SameBut.update s.heap e fun z=>AX 265 h (CP (i+1) g u);have m:Mv w s₀ M s { s with heap:=s.heap.update e fun z=>AX 265 h (CP (i+1) g u),toks:=s.toks }:=Mv.upd c x q D I.a (AH _ _ _).d4 p;obtain⟨v,o⟩:=I.d;have f:h≠e:=by rintro rfl;cases (B6 I.a o)
 have B:Am (s.heap.update e fun z=>AX 265 h (CP (i+1) g u)) e h 265 (CP (i+1) g u):=⟨(Bk (o':=AX 265 h (CP (i+1) g u)) I.a rfl),v,(p.2 _ f).trans o⟩
 exact k g s' (m.trans (Mv.step c m.st y)) (Am.step (s:={ s with heap:=s.heap.update e fun z=>AX 265 h (CP (i+1) g u) }) B y (m.st.gh c))
theorem NB {h:Addr} {M:List Addr} (B:GH w s₀.heap) (x:Step w s₀ s) (a:s.heap.IsListIter h l i) (hl:s.heap.IsList l vs) (f:vs[i]? = some v) (r:s₀.heap.get? h=none) (m:h∈M)
  (k:∀ s',Mv w s₀ M s s'→s'.heap.IsListIter h l (i+1)→Q v s'):wpAny (MD w) A (Builtin.SmallTypes.nextOf (.ref h)) Q E s:=by
 refine AY (id a) fun o e c d=>?_;refine wpAny_nextOf_list_item a hl f fun h' g u=>k _ (Mv.upd B x m r e (fun vs q t p=>by refine Ar (PySem.Data.fields.inj ((d.symm.trans p))) ?_;exact Ne.symm (not_eq_of_beq_eq_false rfl)) u) g
theorem Mv.mono {M k:List Addr} (x:Mv w s₀ M s s') (h:∀ b∈M,b∈k):Mv w s₀ k s s':=⟨x.st,fun b o m=>x.kp b o fun q=>m (h b q),fun b o m=>x.dc b o fun q=>m (h b q),x.tk⟩
theorem Mv.tup {M:List Addr} {x y:Value} (v:Mv w s₀ M s s') (h:a∉M) (e:s.heap.get? a=some (AU x y)):s'.heap.get? a=some (AU x y):=v.kp a _ h (Ab rfl) (AG rfl) e
theorem Mv.lst {M:List Addr} (v:Mv w s₀ M s s') (h:a∉M) (e:s.heap.IsList a vs):s'.heap.IsList a vs:=B0 (e) fun o e c m d=>(Cc o (v.kp a _ h (Ab d) (AG d) e) c m d)
theorem Mv.li {M:List Addr} (v:Mv w s₀ M s s') (h:a∉M) (e:s.heap.IsListIter a l i):s'.heap.IsListIter a l i:=AY (e) fun o e c d=>(Aj o (v.kp a _ h (As (by refine AB c ?_;exact fun q=>nomatch q)) (AR d) e) c d)
theorem Mv.zip {M:List Addr} {g k:Addr} {a:Value} (v:Mv w s₀ M s s') (h:z∉M) (e:s.heap.get? z=some (IX f0 a g k)):s'.heap.get? z=some (IX f0 a g k):=v.kp z _ h (As fun q=>nomatch q) (AR rfl) e
theorem BY {b:Addr} {o:Obj} (k:h.get? a=some o) (g:h.get? b=some o') (e:o.cls≠o'.cls):a≠b:=by rintro rfl;obtain rfl:=(B6 k g);exact e rfl
theorem CU {b:Addr} {o:Obj} {x y:String} (c:h.get? a=some o) (g:h.get? b=some o') (f:o.cls = .type x) (k:o'.cls = .type y) (d:x≠y):a≠b:=BY c g fun e=>d (by replace e:=f.symm.trans e;replace e:=e.trans k;refine AB (PySem.Value.type.inj e) ?_;rfl)
theorem ni {b:Addr} (h:a≠b):a∉[b]:=fun m=>h (List.mem_singleton.mp m)
theorem OS {M:List Addr} (h:a∈M):∀ b∈[a],b∈M:=fun z m=>List.mem_singleton.mp m▸h
theorem BS.Yt {o:Obj} (c:BS w n A s) (m:Mv w s₀ [a] s s') (e:s.heap.get? a=some o) (g:¬Af o):BS w n A s':=c.mv m fun b k o' h d=>g (by rw [List.mem_singleton.mp k,e]at h;refine AB (Ai h) ?_;exact d)
structure ZB (l:Addr) (vs:Array Value) (z TI TO i1 ca Eb:Addr) (i:Nat) (sl:Array (Option Value)) (f0 f1:Value) (h:Heap):Prop where
 hz:h.get? z=some (IX f0 f1 TI TO)
 hI:h.get? TI=some (AU (.ref i1) (.ref ca))
 hO:∃ a b,h.get? TO=some (AU a b)
 it:h.IsListIter i1 l i
 hl:h.IsList l vs
 hc:Am h ca Eb 265 sl
structure ZN (l z TI TO i1 ca Eb:Addr):Prop where
 Iz:TI≠z
 Oz:TO≠z
 iz:i1≠z
 lz:l≠z
 cz:ca≠z
 dz:Eb≠z
 Ii:TI≠i1
 Oi:TO≠i1
 li:l≠i1
 ci:ca≠i1
 di:Eb≠i1
 Ic:TI≠ca
 Oc:TO≠ca
 lc:l≠ca
 lO:l≠TO
 dO:Eb≠TO
theorem Dr {k b:Addr} {g:Array (Option Value)} {o:Obj} {x:String} (I:Am h a k C g) (e:h.get? b=some o) (c:o.cls = .type x):b≠a:=BY e I.a fun q=>by injection (c.symm.trans q)
section
variable {l z TI TO i1 ca Eb:Addr} {vs:Array Value} {i j:Nat} {sl sl':Array (Option Value)} {f0 f1 g0 g1:Value}
theorem ZB.nn (x:ZB l vs z TI TO i1 ca Eb i sl f0 f1 h):ZN l z TI TO i1 ca Eb:=by
 obtain⟨k,g,⟨a,b,e⟩,⟨o1,e1,c1,_⟩,⟨o2,e2,c2,_⟩,hc⟩:=x;obtain⟨f,c⟩:=hc.d;exact⟨CU g k rfl rfl (by decide),CU e k rfl rfl (by decide),CU e1 k c1 rfl (by decide),CU e2 k c2 rfl (by decide),(Dr hc k rfl).symm,CU c k rfl rfl (by decide),CU g e1 rfl c1 (by decide),CU e e1 rfl c1 (by decide),CU e2 e1 c2 c1 (by decide),
  (Dr hc e1 c1).symm,CU c e1 rfl c1 (by decide),Dr hc g rfl,Dr hc e rfl,Dr hc e2 c2,CU e2 e c2 rfl (by decide),CU c e rfl rfl (by decide)⟩
theorem ZB.mz (x:ZB l vs z TI TO i1 ca Eb i sl f0 f1 s.heap) (m:Mv w s₀ [z] s s') (e:s'.heap.get? z=some (IX g0 g1 TI TO)):ZB l vs z TI TO i1 ca Eb i sl g0 g1 s'.heap:=
 let n:=x.nn;⟨e,m.tup (ni n.Iz) x.hI,Bj (x.hO) fun a b q=>⟨a,b,m.tup (ni n.Oz) q⟩,m.li (ni n.iz) x.it,m.lst (ni n.lz) x.hl,x.hc.mv m (ni n.cz) (ni n.dz)⟩
theorem ZB.mo {p q:Value} (x:ZB l vs z TI TO i1 ca Eb i sl f0 f1 s.heap) (h:TI≠TO) (m:Mv w s₀ [TO] s s') (e:s'.heap.get? TO=some (AU p q)):ZB l vs z TI TO i1 ca Eb i sl f0 f1 s'.heap:=
 let n:=x.nn;⟨m.zip (ni n.Oz.symm) x.hz,m.tup (ni h) x.hI,⟨_,_,e⟩,m.li (ni n.Oi.symm) x.it,m.lst (ni n.lO) x.hl,x.hc.mv m (ni n.Oc.symm) (ni n.dO)⟩
theorem ZB.mi (x:ZB l vs z TI TO i1 ca Eb i sl f0 f1 s.heap) (m:Mv w s₀ [i1] s s') (e:s'.heap.IsListIter i1 l j):ZB l vs z TI TO i1 ca Eb j sl f0 f1 s'.heap:=
 let n:=x.nn;⟨m.zip (ni n.iz.symm) x.hz,m.tup (ni n.Ii) x.hI,let⟨a,b,q⟩:=x.hO;⟨a,b,m.tup (ni n.Oi) q⟩,e,m.lst (ni n.li) x.hl,x.hc.mv m (ni n.ci) (ni n.di)⟩
theorem ZB.mc (x:ZB l vs z TI TO i1 ca Eb i sl f0 f1 s.heap) (m:Mv w s₀ [ca] s s') (e:Am s'.heap ca Eb 265 sl'):ZB l vs z TI TO i1 ca Eb i sl' f0 f1 s'.heap:=
 let n:=x.nn;⟨m.zip (ni n.cz.symm) x.hz,m.tup (ni n.Ic) x.hI,let⟨a,b,q⟩:=x.hO;⟨a,b,m.tup (ni n.Oc) q⟩,m.li (ni n.ci.symm) x.it,m.lst (ni n.lc) x.hl,e⟩
theorem ZB.cu (x:ZB l vs z TI TO i1 ca Eb i sl f0 f1 s.heap) (h:BS w n A s) (m:Mv w s₀ [z] s s'):BS w n A s':=h.Yt m x.hz (AR rfl)
theorem ZB.cy (x:ZB l vs z TI TO i1 ca Eb i sl f0 f1 s.heap) (h:BS w n A s) (m:Mv w s₀ [i1] s s'):BS w n A s':=AY (x.it) fun y e y d=>h.Yt m e (AR d)
theorem ZB.ey (x:ZB l vs z TI TO i1 ca Eb i sl f0 f1 s.heap) (h:BS w n A s) (m:Mv w s₀ [TO] s s'):BS w n A s':=Bj (x.hO) fun y y e=>h.Yt m e (AG rfl)
theorem ZS.zb (S:ZS w s₀ l vs z TI TO i1 ca Eb i f0 f1 t u s):ZB l vs z TI TO i1 ca Eb i (CP i t u) f0 f1 s.heap:=⟨S.hz,S.hI,S.hO,S.it,S.hl,S.hc⟩
theorem ZB.zs (x:ZB l vs z TI TO i1 ca Eb i (CP i t u) f0 f1 s.heap) (k:Step w s₀ s) (h:(f0 = .none∧f1 = .bool false)∨(∃ (T:Addr) (b:Bool) (x y:Value),f0=rawInt T∧f1 = .bool b∧s.heap.get? T=some (AU x y)∧T≠TO)):ZS w s₀ l vs z TI TO i1 ca Eb i f0 f1 t u s:=⟨k,x.hz,x.hI,x.hO,x.it,x.hl,x.hc,h⟩
end
theorem HT {k h:Addr} : Iw (IX f0 (.bool b) k h):=fun vs q t e=>by refine Ar (PySem.Data.fields.inj e) ?_;exact Ne.symm (not_eq_of_beq_eq_false rfl)
theorem la {k:Type} {f:Option Obj→Sem k} {Q:k→Shared→Prop} (h:wpAny M A (f (s.heap.get? a)) Q E s):wpAny M A (loadIfAlive a>>=f) Q E s:=AD (fun z z z=>h)
section
variable {l z TI TO i1 ca Eb:Addr} {vs:Array Value} {i:Nat} {sl:Array (Option Value)} {T:Addr} {b:Bool} {x y:Value}
theorem LD {Q:Bool→Shared→Prop} (c:s₀.heap.get? z=none) (G:GH w s₀.heap) (g:Step w s₀ s) (S:ZB l vs z TI TO i1 ca Eb i sl (rawInt T) (.bool b) s.heap) (e:BS w n A s) (a:s.heap.get? T=some (AU x y))
  (k:∀ s₁,Mv w s₀ [z] s s₁→ZB l vs z TI TO i1 ca Eb i sl (rawInt T) (.bool true) s₁.heap→BS w n A s₁→Q false s₁):wpAny (MD w) A (Builtin.SmallTypes.ownedTupleIsFree (.ref z)) Q E s:=by
 unfold Builtin.SmallTypes.ownedTupleIsFree;refine AD (wpAny_field S.hz rfl (x:=rawInt T) rfl ?_);show wpAny _ _ (loadIfAlive (Int.toNat (T:Int))>>=_) _ _ _;refine AB (Int.toNat_natCast ..) ?_;refine la ?_;refine AB a ?_;refine AB (if_neg (ne_true_of_eq_false rfl)) ?_;refine AD (wpAny_field S.hz rfl (x:=.bool b) rfl ?_)
 induction b with
 |true=>
  refine AB (if_neg (by decide)) ?_;exact AM (k s (Mv.refl g) S e)
 |false=>
  refine AB (if_pos (by decide)) ?_;refine AD (wpAny_setField_rec S.hz (Nat.one_lt_succ_succ [Value.bool false,Value.ref TI,Value.ref TO].length) fun h' h d=>?_);have m:Mv w s₀ [z] s { s with heap:=h',toks:=s.toks }:=Mv.upd G g List.mem_cons_self c S.hz HT d;exact AM (k { s with heap:=h',toks:=s.toks } m (S.mz m h) (S.cu e m))
end
theorem OT {N B G:Addr} {T:Addr} {x y:Value} (p:ZF w s₀ z N B H G I) (Y:BS w (n+1) A s)
  (S:ZS w s₀ l vs z N B H G I i (rawInt T) (.bool b) t u s) (K:s.heap.get? T=some (AU x y)) (L:T≠B) (W:vs[i]? = some v)
  (k:∀ O R s',ZS w s₀ l vs z N B H G I (i+1) (rawInt T) (.bool true) R u s'→Mv w s₀ [z,B,H,G] s s'→s'.heap.get? O=some (AU v (.int i t))→s₀.heap.get? O=none→O≠B→Q (.ref O) s') :
  wpAny (MD w) A (Builtin.«zip.__next__» ⟨[.ref z],[]⟩) (fun P s'=>∃ v,P = .done (.ret v)∧Q v s') E s:=by
 show wpAny _ _ (field (.ref z) 2>>=_) _ _ _;refine AD (wpAny_field S.hz rfl (x:=.bool false) rfl ?_);show wpAny _ _ (field (.ref z) 3>>=_) _ _ _;refine AD (wpAny_field S.hz rfl (x:=.ref N) rfl (AD (wpAny_seqItems S.hI rfl ?_)));show wpAny _ _ (Builtin.SmallTypes.ownedTupleIsFree (.ref z)>>=_) _ _ _;refine AD (LD p.z p.g S.st S.zb Y K fun s₁ r d D=>?_);refine AD ?_;simp only [List.forIn_toArray,List.forIn_cons,List.forIn_nil];refine AD (AD (wpAny_holding (AD (NB (M:=[H]) p.g r.st d.it d.hl W p.i List.mem_cons_self fun V m F=>AM (AM ?_)))));have q:=d.mi m F;refine AD (AD (wpAny_holding (AD (LC (M:=[G]) p.g (d.cy D m) m.st q.hc p.c p.b List.mem_cons_self fun R e f J=>AM (AM (AM ?_))))));have o:=q.mc f J;refine AD (wpAny_newTuple (AM (AQ _ rfl ?_)) (by show 2≤sizeLine;decide));have C:Mv w s₀ [z] e { e with heap:=e.heap.push (AU v (.int i t)) }:=Mv.step p.g f.st (Step.push e _);have U:Mv w s₀ [z,B,H,G] s { e with heap:=e.heap.push (AU v (.int i t)) }:=(r.mono (OS (.head _))).trans ((m.mono (OS (.tail _ (.tail _ (.head _))))).trans ((f.mono (OS (.tail _ (.tail _ (.tail _ (.head _)))))).trans (C.mono (OS (.head _)))));refine AY (S.it) fun o1 X Z j=>?_;refine Bj (o.hO) fun a b0 hO=>?_;have nT:T∉[z,B,H,G]:=fun h=>by
  refine Or.elim (List.mem_cons.mp h) (fun h=>?_) (fun h=>?_)
  ·exact CU K S.hz rfl rfl (by decide) h
  ·refine Or.elim (List.mem_cons.mp h) (fun h=>?_) (fun h=>?_)
   ·exact L h
   ·refine Or.elim (List.mem_cons.mp h) (fun h=>?_) (fun h=>?_)
    ·exact CU K X rfl Z (by decide) h
    ·exact Dr S.hc K rfl (List.mem_singleton.mp h)
 exact k _ R { e with heap:=e.heap.push (AU v (.int i t)) } ((o.mz C (Br _ o.hz)).zs U.st (.inr (Ba T true x y rfl rfl (U.tup nT K) L))) U (BD _ rfl) (f.st.gone p.g (fresh_at _)) (Nat.ne_of_gt (Heap.lt_size hO))
end
section
variable {w:Wd} {s₀ s s':Shared} {A:Around} {E:Value→Shared→Prop} {n:Nat}
theorem JC {x y:Value} : Iw (AU x y):=fun vs q t e=>by injection e
theorem OU {TI i1 Y Eb:Addr} (d:ZF w s₀ z TI I i1 Y Eb) (ok:BS w (n+1) A s)
  (S:ZS w s₀ l vs z TI I i1 Y Eb i .none (.bool false) t u s) (hv:vs[i]? = some v)
  (k:∀ (T':Addr) t' s',ZS w s₀ l vs z TI I i1 Y Eb (i+1) (rawInt T') (.bool false) t' u s'→Mv w s₀ [z,I,i1,Y] s s'→s'.heap.get? T'=some (AU v (.int i t))→s₀.heap.get? T'=none→T'≠I→Q (.ref T') s') :
  wpAny (MD w) A (Builtin.«zip.__next__» ⟨[.ref z],[]⟩) (fun fin s'=>∃ v,fin = .done (.ret v)∧Q v s') E s:=by
 have dt:∀ {a:Addr} {s s':Shared},Mv w s₀ [a] s s'→a∈[z,I,i1,Y]→Mv w s₀ [z,I,i1,Y] s s':=fun m h=>m.mono (OS h);show wpAny _ _ (field (.ref z) 2>>=_) _ _ _;refine AD (wpAny_field S.hz rfl (x:=.bool false) rfl ?_);show wpAny _ _ (field (.ref z) 3>>=_) _ _ _;refine AD (wpAny_field S.hz rfl (x:=.ref TI) rfl (AD (wpAny_seqItems S.hI rfl ?_)));show wpAny _ _ (Builtin.SmallTypes.ownedTupleIsFree (.ref z)>>=_) _ _ _;refine AD (AD (wpAny_field S.hz rfl (x:=.none) rfl (AM ?_)));refine AD (wpAny_rule (AD (wpAny_field S.hz rfl (x:=.ref I) rfl (AD (wpAny_setField_rec S.hz (size_pos_of_not_empty rfl) fun Jf Xz X0=>?_)))));have C:Mv w s₀ [z] s { s with heap:=Jf,toks:=s.toks }:=Mv.upd d.g S.st List.mem_cons_self d.z S.hz HT X0;have F:=S.zb.mz (g0:=.ellipsis) (g1:=.bool false) C Xz;refine AD ?_;simp only [List.zipIdx_cons,List.zipIdx_nil,List.forIn_cons,List.forIn_nil];refine AD (AD (wpAny_onRaise ?_));show wpAny _ _ (Builtin.SmallTypes.nextOf (.ref i1)>>=_) _ _ { s with heap:=Jf,toks:=s.toks };refine AD (NB (M:=[i1]) d.g C.st F.it F.hl hv d.i List.mem_cons_self fun f H it₂=>AM ?_);have K:=F.mi H it₂;have X1:=F.cy (S.zb.cu ok C) H;refine Bj (K.hO) fun a b0 o=>?_;refine AD (wpAny_seqItems o rfl (AD (wpAny_updateSeq_pair o fun a0 N X2=>?_)));have G:Mv w s₀ [I] f { f with heap:=a0,toks:=f.toks }:=Mv.upd d.g H.st List.mem_cons_self d.O o JC X2;have X3:=K.mo (p:=v) (q:=b0) d.IO G N;refine AD (wpAny_letGo (AM ?_));refine AD (AD (wpAny_onRaise ?_));show wpAny _ _ (Builtin.SmallTypes.nextOf (.ref Y)>>=_) _ _ { f with heap:=a0,toks:=f.toks };refine AD (LC (M:=[Y]) d.g (K.ey X1 G) G.st X3.hc d.c d.b List.mem_cons_self fun t' e D X4=>AM ?_);have r:e.heap.get? I=some (AU v b0):=D.tup (ni S.zb.nn.Oc) N;refine AD (wpAny_seqItems r rfl (AD (wpAny_updateSeq_pair r fun y j X5=>?_)));have B:Mv w s₀ [I] e { e with heap:=y,toks:=e.toks }:=Mv.upd d.g D.st List.mem_cons_self d.O r JC X5;have P:=(X3.mc D X4).mo (p:=v) (q:=.int i t) d.IO B j;refine AD (wpAny_letGo (AM (AM (AD (wpAny_seqItems j rfl (AD (wpAny_newTuple ?_ (by show 2≤sizeLine;exact fit_le rfl))))))));have V:Mv w s₀ [z] { e with heap:=y,toks:=e.toks } { e with heap:=y.push (AU v (.int i t)),toks:=e.toks }:=Mv.step d.g B.st (Step.push _ _);have R:=P.mz (g0:=.ellipsis) (g1:=.bool false) V (Br _ P.hz);show wpAny _ _ (Builtin.SmallTypes.ownedTupleHandOut (.ref z) (.ref y.objs.size)>>=_) _ _ _;refine AD (AD (wpAny_setField_rec R.hz (size_pos_of_not_empty rfl) fun T X6 L=>?_));have U:Mv w s₀ [z] { e with heap:=y.push (AU v (.int i t)),toks:=e.toks } { e with heap:=T,toks:=e.toks }:=Mv.upd (s:={ e with heap:=y.push (AU v (.int i t)),toks:=e.toks }) d.g V.st List.mem_cons_self d.z R.hz HT L;have X:=R.mz (g0:=rawInt y.objs.size) (g1:=.bool false) U X6;refine wpAny_setField_rec X.hz (Nat.one_lt_succ_succ [Value.bool false,Value.ref TI,Value.ref I].length) fun W X7 J=>?_;have Z:Mv w s₀ [z] { e with heap:=T,toks:=e.toks } { e with heap:=W,toks:=e.toks }:=Mv.upd (s:={ e with heap:=T,toks:=e.toks }) d.g U.st List.mem_cons_self d.z X.hz HT J;have c6:y.objs.size≠z:=Nat.ne_of_gt (Heap.lt_size P.hz);have hT:W.get? y.objs.size=some (AU v (.int i t)):=(J.2 _ c6).trans ((L.2 _ c6).trans (BD _ rfl));have mm:=(dt C (.head _)).trans ((dt H (.tail _ (.tail _ (.head _)))).trans ((dt G (.tail _ (.head _))).trans ((dt D (.tail _ (.tail _ (.tail _ (.head _))))).trans ((dt B (.tail _ (.head _))).trans (dt (V.trans (U.trans Z)) (.head _))))));have Yu:y.objs.size≠I:=Nat.ne_of_gt (Heap.lt_size j);exact AM (AQ _ rfl (k _ t' { e with heap:=W,toks:=e.toks } ((X.mz (g0:=rawInt y.objs.size) (g1:=.bool false) Z X7).zs mm.st (.inr ⟨y.objs.size,false,_,_,rfl,rfl,hT,Yu⟩)) mm hT (B.st.gone d.g (fresh_at _)) Yu))
end
section
variable {w:Wd} {s₀ s s':Shared} {A:Around} {E:Value→Shared→Prop} {n:Nat}
theorem QP {j:Addr} {O:Value} {Q:Option Value→Shared→Prop} (K:ZF w s₀ z H j D C d) (N:BS w (n+2) A s)
  (S:ZS w s₀ l vs z H j D C d i f0 O t u s) (I:vs[i]? = some v)
  (k:∀ (a U:Addr) b r s',ZS w s₀ l vs z H j D C d (i+1) (rawInt U) (.bool b) r u s'→Mv w s₀ [z,j,D,C] s s'→s'.heap.get? a=some (AU v (.int i t))→s₀.heap.get? a=none→a≠j→Q (some (.ref a)) s') :
  wpAny (MD w) A (pyNext (.ref z)) Q E s:=by
 have J:s.TypeIs (.ref z) "zip":=(AQ _ S.hz rfl)
 have B:BS w (n+1) A.in1 s:=N.in1;unfold pyNext;refine AD (wpAny_attempt (wpAny_callSpecial?_slot (name:=Str.ofString "__next__") J F.slot_zip_next (wpAny_call_entry F.slot_zip_next J F.entry_zip_next ?_ (F.args_zip_next_1 _))));refine Or.elim (id S.hf) (fun h=>?_) (fun c=>?_)
 ·refine Bt (h) fun h p=>?_;obtain rfl:=h;clear h;obtain rfl:=p;exact OU K B S I fun a r s' G m e f g=>AM (k a a _ r s' G m e f g)
 ·refine Ax (c) fun T b x y q o M L=>?_;clear c;obtain rfl:=q;obtain rfl:=o;exact OT K B S M L I fun a r s' G m e f g=>AM (k a T _ r s' G m e f g)
theorem S0 {p f m r:Addr} {T:Addr} {x y:Value} {Q:PySem.Fin→Shared→Prop} (j:ZF w s₀ z p f m r d) (v:BS w n A s)
  (S:ZS w s₀ l vs z p f m r d i (rawInt T) (.bool b) t u s) (D:s.heap.get? T=some (AU x y)) (C:T≠f) (B:vs[i]? = none)
  (k:∀ e s',Mv w s₀ [z,f,m,r] s s'→(∃ o,s'.heap.get? e=some o∧o.cls = .type "StopIteration")→E (.ref e) s') :
  wpAny (MD w) A (Builtin.«zip.__next__» ⟨[.ref z],[]⟩) Q E s:=by
 show wpAny _ _ (field (.ref z) 2>>=_) _ _ _;refine AD (wpAny_field S.hz rfl (x:=.bool false) rfl ?_);refine AD (wpAny_field S.hz rfl (x:=.ref p) rfl (AD (wpAny_seqItems S.hI rfl ?_)));refine AD (LD j.z j.g S.st S.zb v D fun s₁ c a Z=>?_);refine AD ?_;refine AY (id a.it) fun oi G J I=>?_;refine AD (AD (wpAny_holding (AD (wpAny_nextOf_list_end v.h a.it a.hl B fun h' e H F=>?_))));exact k e _ ((c.mono (OS (.head _))).trans (Mv.ext j.g c.st (.tail _ (.tail _ (.head _))) j.i G (BX I fun q t=>by exact Ne.symm (not_eq_of_beq_eq_false rfl)) H)) F
theorem QQ {j f h:Addr} {T:Addr} {x y:Value} {Q:Option Value→Shared→Prop} (q:ZF w s₀ z j a d f h) (v:BS w (n+1) A s)
  (S:ZS w s₀ l vs z j a d f h i (rawInt T) (.bool b) t u s) (B:s.heap.get? T=some (AU x y)) (c:T≠a) (p:vs[i]? = none)
  (k:∀ s',Mv w s₀ [z,a,d,f] s s'→Q none s'):wpAny (MD w) A (pyNext (.ref z)) Q E s:=by
 have g:s.TypeIs (.ref z) "zip":=(AQ _ S.hz rfl)
 refine AD (wpAny_attempt (wpAny_callSpecial?_slot (name:=Str.ofString "__next__") g F.slot_zip_next (wpAny_call_entry F.slot_zip_next g F.entry_zip_next (S0 q v.in1 S B c p fun e s' m D=>?_) (F.args_zip_next_1 _))));refine AF (D) fun o C r=>?_;refine AD (wpAny_isInstance (T:="StopIteration") (b:=true) (AQ o C r) isSubtype_stop ?_);exact AM (k _ m)
noncomputable def IY (h:Heap) (M:List Addr) (vs acc:Array Value):Prop:=∀ (j:Nat) (x:Value),acc[j]? = some x→∃ (T:Addr) (v:Value) (tk:Tok),x = .ref T∧vs[j]? = some v∧h.get? T=some (AU v (.int j tk))∧T∉M
theorem IY.mv {M:List Addr} {k:Array Value} (h:IY s.heap M vs k) (m:Mv w s₀ M s s'):IY s'.heap M vs k:=fun j x e=>CX (h j x e) fun T v tk a b c d=>(CY T v tk a b (m.tup d c) d)
set_option tactic.hygienic true in
theorem IY.push {M:List Addr} {k:Array Value} (x:IY h M vs k) {T:Addr} {tk:Tok} (a:vs[k.size]? = some v) (e:h.get? T=some (AU v (.int k.size tk))) (b:T∉M):IY h M vs (k.push (.ref T)):=fun j y g=>by
 rw [Array.getElem?_push]at g;split at g
 ·rename_i hj;refine AB hj ?_;refine Ar (Ai g) ?_;exact(CY T v tk rfl a e b)
 ·exact x j y g
noncomputable abbrev zM (z TO i1 ca:Addr):List Addr:=[z,TO,i1,ca]
theorem S1 {TI N:Addr} {res:Value} {R:Result→Shared→Prop} (ZZ:ZF w s₀ z TI D I H N) (Xu:0<vs.size) (c9:vs.size≤1000) (fS:s₀.heap.get? S=none) (hS:S∉zM z D I H)
  (k:∀ s' f c,Step w s₀ s'→s'.heap.get? S=some { cls:=.type "list",dict:=none,data:=.seq f c,slots:=#[] }→f.size=vs.size→IY s'.heap (zM z D I H) vs f→R (.ok (.ret res)) s') :
  ∀ (m i:Nat) (s:Shared) (f0 f1:Value) (t:Tok) (f:Array Value) (c:Nat),vs.size-i=m→i≤vs.size→BS w (n+3) A s→ZS w s₀ l vs z TI D I H N i f0 f1 t u s→(0<i→∃ (T:Addr) (b:Bool),f0=rawInt T∧f1 = .bool b)→
   s.heap.get? S=some { cls:=.type "list",dict:=none,data:=.seq f c,slots:=#[] }→f.size=i→IY s.heap (zM z D I H) vs f→s₀.heap.get? l≠none→
   codeAny (MD w) A (.builtin "list.extend.loop" ⟨[.ref S,.ref z,res],[]⟩) R s:=by
 intro m
 induction m with
 |zero=>
  intro i s f0 f1 t f c hk hi ok r h0 L Q ht O;have a1:i=vs.size:=cG hi hk;refine CD (h0 (Nat.lt_of_lt_of_eq Xu (id (Eq.symm a1)))) fun T b Y V=>?_;obtain rfl:=Y;obtain rfl:=V;refine codeAny_builtin F.entry_extend_loop ?_;refine AB (Around.under_plainId F.plain_extend_loop _) ?_;obtain⟨x,y,e1,e2⟩:∃ x y,s.heap.get? T=some (AU x y)∧T≠D:=by
   refine Or.elim (r.hf) (fun X=>?_) (fun Z=>?_)
   ·refine Bt (X) fun h E=>?_;injection h
   ·refine Ax (Z) fun K b' x y h1 h2 h3 h4=>?_;have:T=K:=by have:=congrArg (fun v=>match v with | Value.int i _=>i | _=>0) h1;exact Int.ofNat.inj this
    subst this;exact(Dj x y h3 h4)
  refine AD (QQ ZZ (n:=n+1) ok.in1 r e1 e2 (by simp [a1]) fun s' m'=>?_);exact AM (k s' f c m'.st (m'.kp S _ hS (Ab rfl) (AG rfl) L) (Q.trans a1) (ht.mv m'))
 |succ m ih=>
  intro i s f0 f1 t f c hk hi ok r h0 L Q ht O;have M:i<vs.size:=Nat.lt_of_sub_eq_succ hk;refine codeAny_builtin F.entry_extend_loop ?_;refine AB (Around.under_plainId F.plain_extend_loop _) ?_;refine AD (QP ZZ (n:=n) ok.in1 r (Array.getElem?_eq_getElem M) fun K U b t' s' G m' hT fT Yu=>?_);have B:=m'.kp S _ hS (Ab rfl) (AG rfl) L;have e8:BS w (n+3) A s':=ok.mv m' fun b p o e d=>by
   refine AY (r.it) fun E ei E di=>?_;refine Bj (r.hO) fun E E eO=>?_;refine Or.elim (List.mem_cons.mp p) (fun a0=>?_) (fun p=>?_)
   ·clear hS k;obtain rfl:=a0;exact AR rfl (Ai (r.hz.symm.trans e)▸d)
   ·refine Or.elim (List.mem_cons.mp p) (fun W=>?_) (fun p=>?_)
    ·clear hS k;obtain rfl:=W;exact AG rfl (Ai (eO.symm.trans e)▸d)
    ·refine Or.elim (List.mem_cons.mp p) (fun aQ=>?_) (fun p=>?_)
     ·clear hS k;obtain rfl:=aQ;exact AR di (Ai (ei.symm.trans e)▸d)
     ·replace e:=(List.mem_singleton.mp p)▸e;exact(AH _ _ _).d1 (Ai (r.hc.a.symm.trans e)▸d)
  refine AD (wpAny_updateSeq B rfl (AM ⟨plainId_quiet F.plain_extend_loop _,?_⟩) (D3 (Q▸AJ hi c9)) (by refine AB (Array.size_push ..) ?_;exact Nat.succ_le_succ (D3 (Q▸AJ hi c9))));have C:Mv w s₀ [S] s' { s' with heap:=s'.heap.update S (Obj.mapSeq (·.push (.ref K))),toks:=s'.toks }:=Mv.upd ZZ.g m'.st D1 fS B (fun vs q t e=>by injection e) (Heap.SameBut.update s'.heap S (Obj.mapSeq (·.push (.ref K))));have p:=G.zb;refine AY (p.it) fun oi ei ci di=>?_;refine Bj (p.hO) fun a' b' eO=>?_;have e9:K∉zM z D I H:=fun h=>by
   refine Or.elim (List.mem_cons.mp h) (fun h=>?_) (fun h=>?_)
   ·exact CU hT p.hz rfl rfl (by decide) h
   ·refine Or.elim (List.mem_cons.mp h) (fun h=>?_) (fun h=>?_)
    ·exact Yu h
    ·refine Or.elim (List.mem_cons.mp h) (fun h=>?_) (fun h=>?_)
     ·exact CU hT ei rfl ci (by decide) h
     ·exact Dr p.hc hT rfl (List.mem_singleton.mp h)
  have J:∀ {b o x},s'.heap.get? b=some o→o.cls = .type x→x≠"list"→b∉[S]:=fun e c h=>ni (CU e B c rfl h);refine Ap (p.hc.d) fun sd ed=>?_;refine ih (i+1) _ (rawInt U) (.bool b) t' (f.push (.ref K)) _ (ZA hk) M (e8.Yt C B (AG rfl)) ((⟨C.zip (J p.hz rfl (by decide)) p.hz,C.tup (J p.hI rfl (by decide)) p.hI,⟨_,_,C.tup (J eO rfl (by decide)) eO⟩,C.li (J ei ci (by decide)) p.it,C.lst (ni (by rintro rfl;exact O fS)) p.hl,p.hc.mv C (ni (Dr p.hc B rfl).symm) (J ed rfl (by decide))⟩:ZB l vs z TI D I H N (i+1) (CP (i+1:Nat) t' u) (rawInt U) (.bool b) (s'.heap.update S (Obj.mapSeq (·.push (.ref K))))).zs C.st ?_) (fun E=>(Dj U b rfl rfl)) (Heap.get?_update_self _ B rfl) (by refine Eq.trans (Array.size_push ..) ?_;refine AB Q ?_;rfl) ?_ O
  ·refine Or.elim (G.hf) (fun h=>?_) (fun P=>?_)
   ·exact .inl h
   ·refine Ax (P) fun T2 b2 x2 y2 h1 h2 h3 h4=>?_;exact .inr (Ba T2 b2 x2 y2 h1 h2 (C.tup (J h3 rfl (by decide)) h3) h4)
  ·have t2:IY (s'.heap.update S (Obj.mapSeq (·.push (.ref K)))) (zM z D I H) vs f:=fun j x e=>by
    refine CX ((ht.mv m') j x e) fun T v tk a b c d=>?_;exact(CY T v tk a b (C.tup (J c rfl (by decide)) c) d)
   exact t2.push (v:=vs[i]) (tk:=t) (by refine AB Q ?_;exact Array.getElem?_eq_getElem M) (by refine AB Q ?_;exact C.tup (J hT rfl (by decide)) hT) e9
end
section
variable {w:Wd} {s₀ s s':Shared} {A:Around} {E:Value→Shared→Prop} {n:Nat}
theorem QR {A:Around} {s:Shared} {e y:Addr} {i:Int} {E:Value→Shared→Prop} (G:GH w s.heap) (g:BS w (n+1) A s) (I:Am s.heap e y 265 (CP i t u)) (k:∀ s',Step w s s'→Q (.ref e) s'):wpAny (MD w) A (pyIter (.ref e)) Q E s:=
 Gn G I Sy Xx NA (Gm (n:=n) (o:=PC) (fd:=fdOf PC) G g rfl rfl rfl (fun S=>rfl) (fun h G=>codeRec_of G.kin (by kernel_rfl)) rfl rfl rfl rfl rfl rfl rfl rfl fun s' x=>(B2 rfl x (k s' x)))
theorem S2 {y B:Addr} (G:GH w s.heap) (S:BS w (n+2) A s) (hl:s.heap.IsList l vs) (N:Am s.heap y B 265 (CP 0 t u))
  (k:∀ z K F v s',Step w s s'→s.heap.get? z=none→s.heap.get? F=none→s.heap.get? v=none→K≠F→s'.heap.get? z=some (IX .none (.bool false) K F)→s'.heap.get? K=some (AU (.ref v) (.ref y))→s'.heap.get? F=some (AU .none .none)→s'.heap.IsListIter v l 0→
   s'.heap.IsList l vs→Am s'.heap y B 265 (CP 0 t u)→Q (.ref z) s') :
  wpAny (MD w) A (Builtin.«zip.__new__» ⟨[.type "zip",.ref l,.ref y],[]⟩) (fun J s'=>∃ r,J = .done (.ret r)∧s'.TypeIs r "zip"∧Q r s') E s:=by
 have R:Builtin.SmallTypes.newClass "zip" ⟨[.type "zip",.ref l,.ref y],[]⟩=pure (.type "zip",[.ref l,.ref y]):=by
  unfold Builtin.SmallTypes.newClass;dsimp only;refine AB (show isType (.type "zip")=pure true from by kernel_rfl) ?_;refine AB sub_zip ?_;rfl
 unfold Builtin.«zip.__new__»;refine AB R ?_;refine AD (AM ?_);dsimp only;refine AB (if_neg (by decide)) ?_;refine AD ?_;unfold Builtin.SmallTypes.iterAll;simp only [List.forIn_cons,List.forIn_nil];refine AD (AD (AD (wpAny_holding (wpAny_pyIter_list hl ?_))));have g:Step w s { s with heap:=s.heap.push { cls:=.type "list_iterator",data:=.fields #[.ref l,.int 0 0] } }:=Step.push s _;refine AM (AD (AD (wpAny_holding (QR (n:=n+1) (g.gh G) (S.step g) (N.step g G) fun h f=>?_))));have j:=g.gh G;refine AM (AM (AM ?_));refine AD (wpAny_newTuple ?_ (by show 2≤sizeLine;exact fit_le rfl));refine AD (wpAny_newTuple ?_ (by show 2≤sizeLine;exact fit_le rfl));have i:Step w h { h with heap:=h.heap.push (AU (.ref s.heap.objs.size) (.ref y)) }:=Step.push h _;have m:Step w { h with heap:=h.heap.push (AU (.ref s.heap.objs.size) (.ref y)) } { h with heap:=(h.heap.push (AU (.ref s.heap.objs.size) (.ref y))).push (AU .none .none) }:=Step.push _ _;refine AD ?_;show wpAny _ _ (newObj (.type "zip") (.fields #[.none,.bool false,.bool false,.ref h.heap.objs.size,.ref (h.heap.push (AU (.ref s.heap.objs.size) (.ref y))).objs.size])) _ _ _;refine wpAny_newObj_type ?_;have D:Step w { h with heap:=(h.heap.push (AU (.ref s.heap.objs.size) (.ref y))).push (AU .none .none) } { h with heap:=((h.heap.push (AU (.ref s.heap.objs.size) (.ref y))).push (AU .none .none)).push (IX .none (.bool false) h.heap.objs.size (h.heap.push (AU (.ref s.heap.objs.size) (.ref y))).objs.size) }:=Step.push _ _;have p:=g.trans f;have C:=i.trans (m.trans D);have M:=p.trans C;have P:(((h.heap.push (AU (.ref s.heap.objs.size) (.ref y))).push (AU .none .none)).push (IX .none (.bool false) h.heap.objs.size (h.heap.push (AU (.ref s.heap.objs.size) (.ref y))).objs.size)).get? ((h.heap.push (AU (.ref s.heap.objs.size) (.ref y))).push (AU .none .none)).objs.size=some (IX .none (.bool false) h.heap.objs.size (h.heap.push (AU (.ref s.heap.objs.size) (.ref y))).objs.size):=BD _ rfl;refine AM (Aj _ rfl ⟨_,P,rfl⟩ ?_);have I:Heap.IsListIter (s.heap.push { cls:=.type "list_iterator",data:=.fields #[.ref l,.int 0 0] }) s.heap.objs.size l 0:=(Aj _ (BD _ rfl) rfl rfl)
 have O:∀ {a b:Shared} (x:Step w a b) (G:GH w a.heap) {v},a.heap.IsListIter v l 0→b.heap.IsListIter v l 0:=fun x G=>fun L=>AY (L) fun o e c d=>(Aj o (x.get G e (As (by refine AB c ?_;exact fun q=>nomatch q)) (AR d)) c d)
 have H:h.heap.objs.size≠(h.heap.push (AU (.ref s.heap.objs.size) (.ref y))).objs.size:=by refine AB (Heap.size_push ..) ?_;exact Nat.ne_of_lt (Nat.lt_succ_self _)
 exact k _ _ _ s.heap.objs.size _ M ((p.trans (i.trans m)).gone G (fresh_at _)) ((p.trans i).gone G (fresh_at _)) (fresh_at _) H P (Br _ (Br _ (BD _ rfl))) (Br _ (BD _ rfl)) (O C (f.gh j) (O f j I)) (M.list G hl) (N.step M G)
theorem MM:typeLookup (.type "zip") "__len__" = pure none:=by refine Eq.trans (typeLookup_type ..) ?_;refine AB builtinLookup_eq_fast ?_;kernel_rfl
theorem LG:typeLookup (.type "zip") "__length_hint__" = pure none:=by refine Eq.trans (typeLookup_type ..) ?_;refine AB builtinLookup_eq_fast ?_;kernel_rfl
theorem LH {V K:Addr} {Q:List Value→Shared→Prop} (G:ZF w s₀ z V J K I C) (ok:BS w (n+3) A s) (y:ZS w s₀ l vs z V J K I C 0 .none (.bool false) t u s) (N:0<vs.size) (S:vs.size≤1000) (P:s₀.heap.get? l≠none)
  (k:∀ s' m,Step w s₀ s'→m.size=vs.size→IY s'.heap (zM z J K I) vs m→Q m.toList s'):wpAny (MD w) A (collect (.ref z)) Q E s:=by
 have lt:∀ {b o},s.heap.get? b=some o→s.heap.objs.size≠b:=fun e=>Nat.ne_of_gt (Heap.lt_size e);refine AY (id y.it) fun oi U ci di=>?_;refine Bj (y.hO) fun a' b' T=>?_;have L:s.heap.objs.size∉zM z J K I:=by
  simp only [List.mem_cons,List.not_mem_nil,or_false,not_or];exact(EX (lt y.hz) (lt T) (lt U) (lt y.hc.a))
 have R:s₀.heap.get? s.heap.objs.size=none:=y.st.gone G.g (fresh_at _);refine AD (wpAny_runValue (codeAny_builtin F.entry_proto_collect ?_));refine AB (Around.under_plainId F.plain_proto_collect _) ?_;refine AD (wpAny_newObj_type ?_);refine AM ⟨plainId_quiet F.plain_list_iadd _,codeAny_builtin F.entry_list_iadd ?_⟩;refine AB (Around.under_plainId F.plain_list_iadd _) ?_;have h1:Builtin.List.listSameRef (.ref s.heap.objs.size) (.ref z)=false:=by simp [Builtin.List.listSameRef,lt y.hz]
 have Z:∀ b o,s.heap.get? b=some o→(s.heap.push { cls:=.type "list",data:=.seq ([]:List Value).toArray }).get? b=some o:=fun b o e=>Br _ e;have H:=Z _ _ y.hz;have O:({ s with heap:=s.heap.push { cls:=.type "list",data:=.seq ([]:List Value).toArray } } : Shared).TypeIs (.ref z) "zip":=(AQ _ H rfl)
 show wpAny _ A.in1 (Builtin.List.listExtendWith (.ref s.heap.objs.size) (.ref z) (.ref s.heap.objs.size)) _ _ _;unfold Builtin.List.listExtendWith;refine AD (wpAny_typeOf O ?_);have Y:(Value.type "zip" == Value.type "list")=false:=by rfl
 have h3:(Value.type "zip" == Value.type "tuple")=false:=by assumption
 simp only [h1,Y,h3,Bool.or_false,Bool.false_eq_true,if_false];refine AD (wpAny_pyIter_zip (s:={ s with heap:=s.heap.push { cls:=.type "list",data:=.seq ([]:List Value).toArray } }) (f0:=.none) H ?_);refine AD (wpAny_holding ?_);refine AD (wpAny_specialOf O MM ?_);refine AD (wpAny_specialOf O LG ?_);refine AM ?_;refine AD (wpAny_rule ?_);have f:(s.heap.push { cls:=.type "list",data:=.seq ([]:List Value).toArray }).get? s.heap.objs.size=some { cls:=.type "list",data:=.seq ([]:List Value).toArray }:=BD _ rfl;refine AD ?_;refine AD (wpAny_updateSeq f rfl ?_);have i:=Heap.get?_update_self (Obj.mapSeq (·.push Value.none)) f rfl;refine wpAny_updateSeq i rfl ?_;have p:Mv w s₀ [s.heap.objs.size] s { s with heap:=s.heap.push { cls:=.type "list",data:=.seq ([]:List Value).toArray },toks:=s.toks }:=Mv.step G.g y.st (Step.push s _);have r:Mv w s₀ [s.heap.objs.size] { s with heap:=s.heap.push { cls:=.type "list",data:=.seq ([]:List Value).toArray },toks:=s.toks } { s with heap:=(s.heap.push { cls:=.type "list",data:=.seq ([]:List Value).toArray }).update s.heap.objs.size (Obj.mapSeq (·.push Value.none)),toks:=s.toks }:=
  Mv.upd (s:={ s with heap:=s.heap.push { cls:=.type "list",data:=.seq ([]:List Value).toArray },toks:=s.toks }) G.g p.st D1 R f (fun vs q t e=>by injection e) (Heap.SameBut.update ..)
 have D:Mv w s₀ [s.heap.objs.size] { s with heap:=(s.heap.push { cls:=.type "list",data:=.seq ([]:List Value).toArray }).update s.heap.objs.size (Obj.mapSeq (·.push Value.none)),toks:=s.toks } { s with heap:=((s.heap.push { cls:=.type "list",data:=.seq ([]:List Value).toArray }).update s.heap.objs.size (Obj.mapSeq (·.push Value.none))).update s.heap.objs.size (Obj.mapSeq (·.pop)),toks:=s.toks }:=
  Mv.upd (s:={ s with heap:=(s.heap.push { cls:=.type "list",data:=.seq ([]:List Value).toArray }).update s.heap.objs.size (Obj.mapSeq (·.push Value.none)),toks:=s.toks }) G.g r.st D1 R i (fun vs q t e=>by injection e) (Heap.SameBut.update ..)
 have v:=p.trans (r.trans D);refine Ap (y.hc.d) fun sd ed=>?_;refine AF (id y.hl) fun ol W rl=>?_;have B:∀ {b o},s.heap.get? b=some o→b∉[s.heap.objs.size]:=fun e=>by exact not_iter_of_old e
 refine AM ⟨plainId_quiet F.plain_extend_loop _,S1 (n:=n) G N S R L (fun s' m c X M ha ht=>?_) _ 0 _ .none (.bool false) t #[] _ rfl (Nat.zero_le _) (ok.mv v fun b hb o e d=>?_)
  ⟨v.st,v.zip (B y.hz) y.hz,v.tup (B y.hI) y.hI,⟨_,_,v.tup (B T) T⟩,v.li (B U) y.it,v.lst (B W) y.hl,y.hc.mv v (B y.hc.a) (B ed),.inl ⟨rfl,rfl⟩⟩ (fun h=>absurd h (Nat.lt_irrefl _)) (Heap.get?_update_self (Obj.mapSeq (·.pop)) i rfl) rfl (fun j x e=>by injection e) P⟩
 ·refine AD (wpAny_load M ?_);exact AM (k s' m X ha ht)
 ·replace e:=(List.mem_singleton.mp hb)▸e;replace e:=(fresh_at ..)▸e;injection e
end
noncomputable def HC {α:Type} (n:Nat) (lt:Nat→Nat→Bool):KasT α→Option α
 |.ret a=>some a
 |.ask i j k=>if decide (i<n)&&decide (j<n)then HC n lt (k (lt i j))else none
theorem QS {g:Type} {lt:Nat→Nat→Bool} {y:Nat→Nat→(Bool→Shared→Prop)→Shared→Prop} {Q:g→Shared→Prop}
  (d:∀ i j (C:Bool→Shared→Prop),i<n→j<n→C (lt i j) s→y i j C s) {t:KasT g} {a:g} : HC n lt t=some a→Q a s→t.kasWp y Q s:=by
 induction t with
 |ret b=>exact fun e h=>Ai e▸h
 |ask i j k c=>
  intro e h;replace e:(if(decide (i<n)&&decide (j<n))=true then HC n lt (k (lt i j))else none)=some a:=e
  by_cases x:(decide (i<n)&&decide (j<n))=true
  ·replace e:=(if_pos x).symm.trans e;replace x:=Bool.and_eq_true_iff.mp x;exact d i j _ (of_decide_eq_true x.1) (of_decide_eq_true x.2) (c _ e h)
  ·exact nomatch (if_neg x).symm.trans e
noncomputable def QT (rs:List Nat) (c:Nat):List Nat:=(rs.map fun r=>if r<c then r else r+1)++[c]
noncomputable def H8:Nat→List (List Nat)
 |0=>[[]]
 |n+1=>(H8 n).flatMap fun rs=>(List.range (n+1)).map fun c=>QT rs c
noncomputable def sortBy (n:Nat) (rs:List Nat):Option (Array Nat):=HC n (fun i j=>decide (rs.getD i 0<rs.getD j 0)) (kas_sort n)
noncomputable def QU (n:Nat) (rs:List Nat):Bool:=match sortBy n rs with
 |some p=>p.toList.map (fun i=>rs.getD i 0)==List.range n&&p.toList.all fun i=>decide (i<n)
 |none=>false
theorem S3:∀ n∈[2,3,4,5,6],∀ h∈H8 n,QU n h=true:=by decide +kernel
structure Total (lt:Nat→Nat→Bool):Prop where
 X8:∀ i,lt i i=false
 tr:∀ i j k,lt i j=true→lt j k=true→lt i k=true
 Yv:∀ i j,i≠j→lt i j=true∨lt j i=true
noncomputable def EO (lt:Nat→Nat→Bool) (k i:Nat):Nat:=(List.range k).countP fun j=>lt j i
theorem JD {k:Type} {p q:k→Bool} (h:∀ x,p x=true→q x=false) (l:List k):l.countP (fun x=>p x||q x)=l.countP p+l.countP q:=by
 induction l with
 |nil=>rfl
 |cons x l e=>
  refine Eq.trans List.countP_cons ?_;refine AB List.countP_cons ?_;refine AB List.countP_cons ?_;refine AB e ?_;cases hp:p x with
  |true=>refine AB (h x hp) ?_;exact Nat.add_right_comm _ _ _
  |false=>cases q x<;>exact Nat.add_assoc _ _ _
theorem H9 {k:Nat} (h:i<k):(List.range k).countP (fun j=>j==i)=1:=by
 induction k with
 |zero=>exact absurd h (Yk (Nat.le_add_left 0 i))
 |succ k x=>
  refine AB List.range_succ ?_;refine Eq.trans List.countP_append ?_
  by_cases e:i=k
  ·refine Ar e ?_;have:(List.range i).countP (fun j=>j==i)=0:=by
    rw [List.countP_eq_zero];intro a y;have:=List.mem_range.mp y;simp;exact Nat.ne_of_lt this
   refine AB this ?_;simp
  ·refine AB (x (ZL (Nat.le_of_lt_succ h) e)) ?_;have:(k==i)=false:=beq_false_of_ne fun a=>e (id (Eq.symm a));simp [this]
theorem countP_le {e:Type} {p q:e→Bool} (h:∀ x,p x=true→q x=true) (l:List e):l.countP p≤l.countP q:=by
 induction l with
 |nil=>exact Nat.le_refl _
 |cons x l k=>
  refine AB List.countP_cons ?_;refine AB List.countP_cons ?_;cases hp:p x with
  |true=>refine AB (h x hp) ?_;exact Nat.succ_le_succ k
  |false=>exact Nat.le_add_right_of_le k
section
variable {lt:Nat→Nat→Bool} (T:Total lt)
include T
theorem NC {k x:Nat} (g:i<k) (h:lt i x=true):EO lt k i<EO lt k x:=by
 have c:(List.range k).countP (fun j=>lt j i||j==i)=EO lt k i+1:=by
  rw [JD (fun j y=>?_),H9 g];rfl;cases e:j==i with
  |false=>rfl
  |true=>replace y:=(beq_iff_eq.mp e)▸y;replace y:=(T.X8 ..).symm.trans y;injection y
 have b:(List.range k).countP (fun j=>lt j i||j==i)≤EO lt k x:=countP_le (fun j y=>by
  refine Or.elim ((Bool.or_eq_true _ _).mp y) (fun a=>?_) (fun a=>?_)
  ·exact T.tr _ _ _ a h
  ·refine AB (beq_iff_eq.mp a) ?_;exact h) _
 exact(c▸b:EO lt k i+1≤EO lt k x)
theorem Uz {k x:Nat} (h:lt i x=false):EO lt k x≤EO lt k i:=by
 by_cases e:i=x
 ·refine AB e ?_;exact Nat.le_refl _
 ·have y:lt x i=true:=(T.Yv i x e).resolve_left (by refine AB h ?_;exact Bool.false_ne_true);exact countP_le (fun j g=>T.tr _ _ _ g y) _
theorem U0 {k j:Nat} (e:i<k):lt i j=decide (EO lt k i<EO lt k j):=by
 cases h:lt i j with
 |true=>exact(decide_eq_true (NC T e h)).symm
 |false=>exact(decide_eq_false (Nat.not_lt.mpr (Uz T h))).symm
theorem OV (k:Nat):(List.range k).map (EO lt k)∈H8 k:=by
 induction k with
 |zero=>exact D1
 |succ k g=>
  refine List.mem_flatMap.mpr ⟨_,g,List.mem_map.mpr ⟨EO lt k k,List.mem_range.mpr (Nat.lt_succ_of_le ?_),?_⟩⟩
  ·have:=List.countP_le_length (p:=fun j=>lt j k) (l:=List.range k);rw [List.length_range]at this;exact this
  ·unfold QT;rw [List.range_succ,List.map_append,List.map_map];have y:∀ i,EO lt (k+1) i=EO lt k i+if lt k i=true then 1 else 0:=fun i=>by
    unfold EO;rw [List.range_succ,List.countP_append];cases h:lt k i<;>rw [List.countP_cons,h]<;>rfl
   refine congr (congrArg _ (List.map_congr_left fun i x=>?_)) (congrArg (fun q=>[q]) ?_)
   ·have x:=List.mem_range.mp x;refine AB (y i) ?_;cases h:lt i k with
    |true=>
     refine Eq.trans (if_pos (NC T x h)) ?_;refine Eq.symm (a:=EO lt k i+_) (b:=EO lt k i+0) (congrArg (EO lt k i + ·) (if_neg fun e=>?_));have:=T.tr _ _ _ h e;rw [T.X8]at this;injection this
    |false=>
     refine Eq.trans (if_neg (Nat.not_lt.mpr (Uz T h))) ?_;exact(congrArg (EO lt k i + ·) (if_pos ((T.Yv i k (Nat.ne_of_lt x)).resolve_left (by rw [h];exact Bool.false_ne_true)))).symm
   ·refine Eq.symm (b:=EO lt k k+0) ((y k).trans (congrArg (EO lt k k + ·) (if_neg (by rw [T.X8];exact Bool.false_ne_true))))
set_option tactic.hygienic true in
theorem OW (v:2≤n) (u:n≤6):∃ p:Array Nat,HC n lt (kas_sort n)=some p∧p.size=n∧(∀ k,k<n→p.getD k 0<n∧EO lt n (p.getD k 0)=k):=by
 have y:=S3 n (by simp;exact Wu v u) _ (OV T n);unfold QU sortBy at y;have c:∀ {m:Type} (t:KasT m),HC n (fun i j=>decide (((List.range n).map (EO lt n)).getD i 0<((List.range n).map (EO lt n)).getD j 0)) t=HC n lt t:=by
  intro m t
  induction t with
  |ret a=>rfl
  |ask i j k s=>
   dsimp only [HC]
   by_cases x:i<n∧j<n
   ·have r:((List.range n).map (EO lt n)).getD j 0=EO lt n j:=by simp [List.getD_eq_getElem?_getD,x.2]
    rw [(by simp [List.getD_eq_getElem?_getD,x.1]:((List.range n).map (EO lt n)).getD i 0=EO lt n i),r,←U0 T x.1,s]
   ·have:(decide (i<n)&&decide (j<n))=false:=by
     rw [Bool.and_eq_false_iff,decide_eq_false_iff_not,decide_eq_false_iff_not]
     by_cases h:i<n
     ·exact .inr fun h'=>x ⟨h,h'⟩
     ·exact .inl h
    refine AB this ?_;rfl
 replace y:=(c ..)▸y;split at y
 ·rename_i p hp;rw [Bool.and_eq_true,beq_iff_eq,List.all_eq_true]at y;obtain⟨q,w⟩:=y;have hsz:p.size=n:=by have:=congrArg List.length q;simpa using this
  refine(Aj p hp hsz (fun k o=>?_))
  have g:k<p.size:=AJ o (Nat.le_of_eq (id (Eq.symm hsz)));have e:p.getD k 0=p[k]:=Eq.symm (Array.getElem_eq_getD 0);have b:p[k]<n:=of_decide_eq_true (w _ (Array.getElem_mem_toList g));refine⟨by refine AB e ?_;exact b,?_⟩
  have d:=congrArg (fun l=>l[k]?) q;rw [List.getElem?_map,Array.getElem?_toList,Array.getElem?_eq_getElem g,Option.map_some,List.getElem?_range o]at d;have f:=Ai d;rw [List.getD_eq_getElem?_getD,List.getElem?_map,List.getElem?_range b]at f;refine AB e ?_;exact f
 ·injection y
theorem ND {p:Array Nat} (h:∀ k,k<n→p.getD k 0<n∧EO lt n (p.getD k 0)=k) {a b:Nat} (e:a<n) (x:b<n):lt (p.getD a 0) (p.getD b 0)=decide (a<b):=by
 refine Eq.trans (U0 T (h a e).1) ?_;refine AB ((h a e).2) ?_;refine AB ((h b x).2) ?_;rfl
theorem JE {p:Array Nat} (y:∀ k,k<n→p.getD k 0<n∧EO lt n (p.getD k 0)=k) (b:i<n) (x:EO lt n i<n):p.getD (EO lt n i) 0=i:=by
 refine Bt (y _ x) fun g e=>?_;rcases Nat.decEq (p.getD (EO lt n i) 0) i with h | h
 ·exfalso;rcases T.Yv _ _ h with a | a
  ·have:=NC T g a;exact Nat.ne_of_lt this e
  ·have:=NC T b a;exact Nat.ne_of_lt this (id (Eq.symm e))
 ·exact h
theorem QV (k:i<n):EO lt n i<n:=by
 have x:(List.range n).countP (fun j=>lt j i||j==i)=EO lt n i+1:=by
  rw [JD (fun j h=>?_),H9 k];rfl;cases e:j==i with
  |false=>rfl
  |true=>rw [beq_iff_eq.mp e,T.X8]at h;injection h
 have:=List.countP_le_length (p:=fun j=>lt j i||j==i) (l:=List.range n);rw [List.length_range]at this;exact(x▸this:EO lt n i+1≤n)
end
theorem EB {k:Nat} (h:k<n):n-1-k<n:=Nat.lt_of_le_of_lt (Nat.sub_le _ _) (Nat.sub_lt (Nat.lt_of_le_of_lt (Nat.zero_le _) h) Nat.one_pos)
theorem U1 {k:Nat} (h:k<n):n-1-(n-1-k)=k:=Nat.sub_sub_self (Nat.le_sub_one_of_lt h)
theorem S4 {a:Nat} (h:a<c) (k:c<n):n-1-c<n-1-a:=Nat.sub_lt_sub_left (Nat.lt_of_lt_of_le h (Nat.le_sub_one_of_lt k)) h
theorem Jv {k:Nat} (h:k<n):((n-1-k:Nat):Int)=(n:Int)-1-k:=by refine Eq.trans (Int.ofNat_sub (Nat.le_sub_one_of_lt h)) ?_;refine AB (Int.ofNat_sub (Nat.lt_of_le_of_lt (Nat.zero_le _) h)) ?_;rfl
noncomputable def FT (v p u q:Int):Bool:=decide (v<u)||(v==u&&decide (p<q))
section
variable {w:Wd} {s₀ s s':Shared} {A:Around} {E:Value→Shared→Prop} {n:Nat}
theorem S5 {d:List Value} {j:Nat} {Ti Tj:Addr} {y x g:Int} {f m l:Tok} {C:Bool→Shared→Prop} (v:d.getD i .none = .ref Ti) (u:d.getD j .none = .ref Tj) (z:s.heap.get? Ti=some (AU (.int k t) (.int x m))) (o:s.heap.get? Tj=some (AU (.int y f) (.int g l)))
  (h:C (FT k x y g) s):kas_ask PR w.w A (tuples' true) d i j C s:=by
 unfold kas_ask;refine AB v ?_;refine AB u ?_;refine kat_lt (b:=true) z rfl o rfl ?_;refine kat_cons (p:=.int k t) (q:=.int y f) (r:=[(.int x m,.int g l)]) (wpAny_eqBool_int ?_);refine kat_go (fun e=>kat_yes (kat_cons (wpAny_eqBool_int (kat_go (fun c=>kat_yes (kat_nil ?_)) fun c=>kat_no (kat_one _ _ (PyProof.Rows.lt_int ?_)))))) fun e=>kat_no (oneLt_int ?_)
 ·have a:k=y:=by simpa using e
  have c:x=g:=by simpa using c
  subst a c;have:FT k x k x=false:=by simp [FT]
  rw [this]at h;exact h
 ·have a:k=y:=by simpa using e
  clear o;subst a;have:FT k x k g=decide (x<g):=by simp [FT]
  replace h:=this▸h;exact h
 ·have a:¬k=y:=by simpa using e
  have:FT k x y g=decide (k<y):=by simp [FT,a]
  replace h:=this▸h;exact h
noncomputable def LJ (b:Bool) (n i:Nat):Int:=if b then(n:Int)-1-i else i
noncomputable def S6 (b:Bool) (ns:List Int) (i:Nat):Int:=ns.getD (if b then ns.length-1-i else i) 0
noncomputable def ltI (b:Bool) (ns:List Int) (i j:Nat):Bool:=FT (S6 b ns i) (LJ b ns.length i) (S6 b ns j) (LJ b ns.length j)
theorem EP {v p u q:Int} : FT v p u q=true↔v<u∨v=u∧p<q:=by simp only [FT,Bool.or_eq_true,decide_eq_true_eq,Bool.and_eq_true,beq_iff_eq]
theorem QW {n j:Nat} (h:LJ b n i=LJ b n j):i=j:=by cases b<;>simp only [LJ,Bool.false_eq_true,if_false,if_true]at h<;>lia
theorem Gp (b:Bool) (ns:List Int):Total (ltI b ns) where
 X8:=fun i=>by simp [ltI,FT]
 tr:=fun i j k e x=>EP.mpr (by
  rcases EP.mp e with e | ⟨c,e⟩<;>rcases EP.mp x with x | ⟨a,x⟩
  ·exact .inl (Int.lt_trans e x)
  ·exact .inl (a▸e)
  ·exact .inl (c▸x)
  ·exact .inr ⟨c.trans a,Int.lt_trans e x⟩)
 Yv:=fun i j h=>by
  refine Or.elim (Int.lt_trichotomy (S6 b ns i) (S6 b ns j)) (fun q=>?_) (fun y=>Or.elim y (fun q=>?_) (fun q=>?_))
  ·exact .inl (EP.mpr (.inl q))
  ·refine Or.elim (Int.lt_trichotomy (LJ b ns.length i) (LJ b ns.length j)) (fun r=>?_) (fun g=>Or.elim g (fun r=>?_) (fun r=>?_))
   ·exact .inl (EP.mpr (.inr ⟨q,r⟩))
   ·exact absurd (QW r) h
   ·exact .inr (EP.mpr (.inr ⟨q.symm,r⟩))
  ·exact .inr (EP.mpr (.inl q))
noncomputable def S7 (h:Heap) (ns:List Int) (ts:List Value):Prop:=ts.length=ns.length∧∀ j,j<ns.length→∃ (T:Addr) (t u:Tok),ts[j]? = some (.ref T)∧h.get? T=some (AU (.int (ns.getD j 0) t) (.int j u))
theorem S7.fA {ns:List Int} : ∀ {ts:List Value} {f:Nat},ts.length=ns.length→(∀ j,j<ns.length→∃ (T:Addr) (t u:Tok),ts[j]? = some (.ref T)∧h.get? T=some (AU (.int (ns.getD j 0) t) (.int ((j+f:Nat):Int) u)))→∃ fs:List Value,KatTups h ts fs∧fs.length=ns.length∧∀ v∈fs,∃ i t,v = .int i t:=by
 induction ns with
 |nil=>
  intro ts f e h;obtain rfl:=List.length_eq_zero_iff.mp e;exact Aj [] KatTups.nil rfl Dh
 |cons x ns g=>
  intro ts f e h
  induction ts with
  |nil=>injection e
  |cons y ts _=>
   refine DZ (h 0 (Nat.zero_lt_succ _)) fun T t u q k=>?_;obtain rfl:y = .ref T:=Ai q;refine AY (g (ts:=ts) (f:=f+1) (Nat.succ.inj e) fun j m=>DZ (h (j+1) (Nat.succ_lt_succ m)) fun l o d a b=>JW l o d a ?_) fun fs c r p=>?_
   ·rw [Nat.add_right_comm j 1 f]at b;exact b
   ·exact Aj (.int x t::fs) (KatTups.cons k rfl rfl rfl c) (congrArg Nat.succ r) (A0 ⟨_,_,rfl⟩ p)
theorem rev_getD (h:i<ts.length):(katRev b ts).getD i .none=ts.getD (if b then ts.length-1-i else i) .none:=by
 induction b with
 |false=>rfl
 |true=>simp [katRev,List.getD_eq_getElem?_getD,List.getElem?_reverse h]
theorem QX {ns:List Int} {n0:Nat} {P:PySem.Fin→Shared→Prop} (Z:GH w s₀.heap) (x:Step w s₀ s) (H:s.heap.get? a=some (seqObj "list" ts.toArray n0)) (fa:s₀.heap.get? a=none) (V:2≤ns.length) (J:ns.length≤6) (R:S7 s.heap ns ts)
  (k:∀ (p:Array Nat) s' c,p.size=ns.length→(∀ k,k<ns.length→p.getD k 0<ns.length∧EO (ltI b ns) ns.length (p.getD k 0)=k)→Mv w s₀ [a] s s'→s'.heap.get? a=some (seqObj "list" (katRev b (p.toList.map fun i=>(katRev b ts).getD i .none)).toArray c)→P (.done (.ret .none)) s') :
  wpAny (MD w) A (Builtin.«list.sort» ⟨[.ref a],[(Str.ofString "reverse",.bool b)]⟩) P E s:=by
 refine Bt (R) fun y S=>?_;have hz:ts.toArray.size=ns.length:=by trivial
 refine AB (list_sort_rev ..) ?_;refine AD (listItems_at H rfl ?_);refine AD (listUpdate_at H rfl ?_ (by refine AB hz ?_;exact D3 (AJ J (Bh rfl))) (Nat.zero_le _));have s1:=Heap.SameBut.update s.heap a (Obj.mapSeq fun _=>(#[]:Array Value));obtain⟨Y,L⟩:∃ Y,(s.heap.update a (Obj.mapSeq fun _=>(#[]:Array Value))).get? a=some (seqObj "list" #[] Y):=⟨_,get?_update_seq H fun _=>#[]⟩
 refine AD (seqEpoch_at L rfl ?_);refine AD (wpAny_newTuple ?_ (by refine AB y ?_;exact D3 (AJ J (Bh rfl))));refine AD (wpAny_newList ?_ (Nat.zero_le _));refine wpAny_holding ?_;have o:Mv w s₀ [a] s { s with heap:=s.heap.update a (Obj.mapSeq fun _=>(#[]:Array Value)),toks:=s.toks }:=Mv.upd Z x D1 fa H (fun vs q t e=>by injection e) s1;have M:Mv w s₀ [a] { s with heap:=s.heap.update a (Obj.mapSeq fun _=>(#[]:Array Value)),toks:=s.toks } { s with heap:=((s.heap.update a (Obj.mapSeq fun _=>(#[]:Array Value))).push (seqObj "tuple" ts.toArray 0)).push (seqObj "list" #[] 0),toks:=s.toks }:=
  Mv.step Z o.st ((Step.push _ _).trans (Step.push { s with heap:=(s.heap.update a (Obj.mapSeq fun _=>(#[]:Array Value))).push (seqObj "tuple" ts.toArray 0),toks:=s.toks } _))
 have m:=o.trans M;have g:(((s.heap.update a (Obj.mapSeq fun _=>(#[]:Array Value))).push (seqObj "tuple" ts.toArray 0)).push (seqObj "list" #[] 0)).get? a=some (seqObj "list" #[] Y):=Br _ (Br _ L);generalize hh:(((s.heap.update a (Obj.mapSeq fun _=>(#[]:Array Value))).push (seqObj "tuple" ts.toArray 0)).push (seqObj "list" #[] 0))=NF at m g;have r:∀ j,j<ns.length→∃ (T:Addr) (t u:Tok),ts[j]? = some (.ref T)∧NF.get? T=some (AU (.int (ns.getD j 0) t) (.int j u)):=fun j O=>by
  refine DZ (S j O) fun T t u e f=>?_;exact(JW T t u e (m.tup (by simpa using BY f H (by simp)) f))
 have I:∀ t:Sem PySem.Fin,wpAny (MD w) A t P E { s with heap:=NF }→wpAny (MD w) A (if b=true then(do let _ ←rule "list.sort.reverse";t)else t) P E { s with heap:=NF }:=by
  intro t R;split
  ·exact AD (wpAny_rule R)
  ·exact R
 refine I _ ?_;have K:¬ts.toArray.size<2:=Yk (AJ V (Nat.le_of_eq (Eq.symm hz)));refine AB (if_neg K) ?_;refine AB (if_neg K) ?_;refine AY (S7.fA (h:=NF) (f:=0) y (by trivial)) fun fs f1 f2 f3=>?_;refine AD (kat_kind (s:={ s with heap:=NF }) (T:=.type "int") f1 (Nat.lt_of_lt_of_le (by decide) (AJ V (Nat.le_of_eq f2.symm))) (fun v hv=>by refine Bj (f3 v hv) fun i t N=>?_;clear hv;obtain rfl:=N;exact Looks.of_pure rfl) (by rfl) ?_);refine AB (show(Value.type "int" != Value.type "tuple")=true from by decide) ?_;refine AB (kat_pairs b (ks:=ts) (vs:=ts) rfl) ?_;refine AY (OW (Gp b ns) V J) fun p a5 F U=>?_;have B:(katRev b ts).length=ns.length:=by refine Eq.trans (kat_len ..) ?_;refine Eq.trans y ?_;rfl
 refine AD (wpAny_mono (kat_run (prog:=PR) (w:=w.w) (A:=A) (E:=E) (s:={ s with heap:=NF }) (κ:=tuples' true) (ks:=katRev b ts) (vs:=katRev b ts) (Q:=fun l s'=>s'={ s with heap:=NF }∧arrOf l=p.map (kas_item ((List.toArray (katRev b ts)).zip (List.toArray (katRev b ts))))∧failedOf l=none)
  (G:=fun p' s'=>s'={ s with heap:=NF }∧p'=p) rfl (by exact le_of_le_of_eq V (id (Eq.symm B))) (by exact Nat.lt_of_le_of_lt (AJ (Nat.le_of_eq B) J) (DY rfl)) (fun p' l s' a1 a2 a3 a4=>(B2 a4.1 (by refine Ar a4.2 ?_;exact a2) a3)) ?_) ?_ fun _ _ z=>z)
 ·refine AB B ?_;refine QS (lt:=ltI b ns) (n:=ns.length) (fun i j C D O hC=>?_) a5 ⟨rfl,rfl⟩;have d:∀ i,i<ns.length→(if b then ns.length-1-i else i)<ns.length:=fun i D=>by cases b;exact D;exact EB D
  refine DZ (r _ (d i D)) fun Ti ti ui ei gi=>?_;refine DZ (r _ (d j O)) fun Tj tj uj ej gj=>?_;refine S5 (s:={ s with heap:=NF }) (Ti:=Ti) (Tj:=Tj) (by refine Eq.trans (rev_getD (Nat.lt_of_lt_of_le D (Nat.le_of_eq y.symm))) ?_;refine AB y ?_;simp [List.getD_eq_getElem?_getD,ei]) (by refine Eq.trans (rev_getD (Nat.lt_of_lt_of_le O (Nat.le_of_eq y.symm))) ?_;refine AB y ?_;simp [List.getD_eq_getElem?_getD,ej]) gi gj ?_;have e:∀ i,i<ns.length→(((if b then ns.length-1-i else i):Nat):Int)=LJ b ns.length i:=fun i D=>by cases b;rfl;exact Jv D
  refine AB (e i D) ?_;refine AB (e j O) ?_;exact hC
 ·rintro ⟨⟨⟩,l⟩ s' ⟨rfl,W,hf⟩;dsimp only;refine AB (kat_snds (ks:=katRev b ts) (vs:=katRev b ts) rfl W) ?_;refine AB (kat_outs ..) ?_;refine AD (seqEpoch_at (s:={ s with heap:=NF }) g rfl ?_);obtain⟨X,a0⟩:∃ X,(NF.update a (Obj.mapSeq fun _=>List.toArray (katRev b (p.toList.map fun i=>(katRev b ts).getD i Value.none)))).get? a=some (seqObj "list" (List.toArray (katRev b (p.toList.map fun i=>(katRev b ts).getD i Value.none))) X):=⟨_,get?_update_seq g fun _=>List.toArray (katRev b (p.toList.map fun i=>(katRev b ts).getD i Value.none))⟩
  refine AD (listUpdate_at (s:={ s with heap:=NF }) g rfl ?_ (Nat.zero_le _) (AJ (Nat.le_of_eq (by refine Eq.trans List.size_toArray ?_;refine Eq.trans (kat_len ..) ?_;refine Eq.trans (List.length_map ..) ?_;refine Eq.trans Array.length_toList ?_;refine Eq.trans F ?_;rfl)) (Nat.le_succ_of_le (D3 (AJ J (Bh rfl))))));refine AB hf ?_;simp only [bne_self_eq_false,Bool.false_eq_true,if_false];exact AM (k p _ X F U (m.trans (Mv.upd (s:={ s with heap:=NF,toks:=s.toks }) Z m.st D1 fa g (fun vs q t e=>by injection e) (Heap.SameBut.update NF a (Obj.mapSeq fun _=>List.toArray (katRev b (p.toList.map fun i=>(katRev b ts).getD i Value.none)))))) a0)
end
structure CG (b:Bool) (ns:List Int) (P:Nat→Nat):Prop where
 lt:∀ k,k<ns.length→P k<ns.length
 ord:∀ a c,a<c→c<ns.length→(if b then FT (ns.getD (P c) 0) (P c) (ns.getD (P a) 0) (P a)else FT (ns.getD (P a) 0) (P a) (ns.getD (P c) 0) (P c))=true
 aR:∀ i,i<ns.length→∃ k,k<ns.length∧P k=i
noncomputable def aS (h:Heap) (n:Nat) (vs ts:List Value) (P:Nat→Nat):Prop:=ts.length=n∧∀ k,k<n→∃ (T:Addr) (v:Value) (u:Tok),ts[k]? = some (.ref T)∧vs[P k]? = some v∧h.get? T=some (AU v (.int (P k) u))
noncomputable def QY (b:Bool) (n:Nat) (p:Array Nat) (k:Nat):Nat:=if b then n-1-p.getD (n-1-k) 0 else p.getD k 0
theorem JF {ns:List Int} {p:Array Nat} (x:∀ k,k<ns.length→p.getD k 0<ns.length∧EO (ltI b ns) ns.length (p.getD k 0)=k):CG b ns (QY b ns.length p) where
 lt:=fun k g=>by
  induction b with
  |true=>exact EB (x _ (EB g)).1
  |false=>exact(x k g).1
 ord:=fun a c h e=>by
  have T:=Gp b ns
  induction b with
  |false=>
   have:=ND T x (Nat.lt_trans h e) e;replace this:=this.trans (decide_eq_true h);exact this
  |true=>
   have hl:=fun {k} g=>(x _ (EB (k:=k) g)).1;have:=ND T x (EB e) (EB (Nat.lt_trans h e));replace this:=this.trans (decide_eq_true (S4 h e));refine AB (Jv (hl e)) ?_;refine AB (Jv (hl (Nat.lt_trans h e))) ?_;exact this
 aR:=fun i y=>by
  have T:=Gp b ns
  induction b with
  |false=>exact(AQ _ (QV T y) (JE T x y (QV T y)))
  |true=>
   have d:=QV T (EB y);refine(AQ _ (EB d) ?_)
   show ns.length-1-p.getD (ns.length-1-(ns.length-1-EO (ltI true ns) ns.length (ns.length-1-i))) 0=i;refine AB (U1 d) ?_;refine AB (JE T x (EB y) d) ?_;refine Eq.trans (U1 y) ?_;rfl
theorem QZ {p:Array Nat} (hl:ts.length=n) (c:p.size=n) (a:∀ k,k<n→p.getD k 0<n) {k:Nat} (x:k<n) :
  (katRev b (p.toList.map fun i=>(katRev b ts).getD i Value.none))[k]? = ts[QY b n p k]?:=by
 have g:∀ {j},j<n→(p.toList.map fun i=>(katRev b ts).getD i Value.none)[j]? = some ((katRev b ts).getD (p.getD j 0) .none):=fun {j} f=>by
  have y:j<p.size:=c.symm▸f;rw [List.getElem?_map,Array.getElem?_toList,Array.getElem?_eq_getElem y];simp [Array.getD,y]
 have h:∀ {i},i<n→some (ts.getD i Value.none)=ts[i]?:=fun {i} d=>by
  rw [List.getD_eq_getElem?_getD,List.getElem?_eq_getElem (hl.symm▸d)];rfl
 induction b with
 |false=>
  refine Eq.trans (g x) ?_;refine AB (rev_getD (by refine AB hl ?_;exact a k x)) ?_;exact h (a k x)
 |true=>
  have e:(p.toList.map fun i=>(katRev true ts).getD i Value.none).length=n:=by simp [c]
  show(p.toList.map fun i=>(katRev true ts).getD i Value.none).reverse[k]? = _;rw [List.getElem?_reverse (by rw [e];exact x),e,g (EB x),rev_getD (by rw [hl];exact a _ (EB x)),hl];exact h (EB (a _ (EB x)))
theorem OX:GV "sorted" (.builtin "sorted"):=Bp (fun z=>rfl) rfl (by decide)
theorem Qa:GV "zip" (.type "zip"):=Bp (fun z=>rfl) rfl (by decide)
theorem Qb:GV "count" (.ref 265):=BE fun z=>rfl
section
variable {w:Wd} {names:BC} {n:Nat} {pe:PE}
theorem MN (G:GH w s.heap) (d:BS w (n+3) A s)
  (k:∀ a h t u s',Step w s s'→s.heap.get? a=none→s.heap.get? h=none→Am s'.heap a h 265 (CP 0 t u)→w.base.get? a=none→Q (.ref a) s'):wpAny (MD w) A (call (.ref 265) []) Q E s:=
 LA (m:=n+2) (fI:=240) (vals:=[]) (kw:=[]) (P:=fun b z=>∃ t u,b=CP 0 t u) G d QO Sz Xy
  (fun q w' s₁ a h p l o i y I g x f=>MI (n:=n) i y I g fun t u s' j=>f _ s' ⟨t,u,rfl⟩ j)
  fun a h b s' q x c fd I g=>Bj q fun t u e=>by subst e;exact k a h t u s' x c fd I g
theorem GG {x:Str} {ks:List Keyword} {nm:List Str} (C:Cx w names n A env s pe) (g:GV x (.ref d)) (p:names.lookup x=some .globalImplicit)
  (e:∀ S,peek (K0 w.w.params) S (keeperOf (.ref d))=some .machine) (c:es.all BK=true) (f:ks.map (·.arg)=nm.map some)
  (h:wpAny (MD w) A (spliced (backTo pos (starEach es env))) (fun vs s₁=>wpAny (MD w) A (evalAll ((backToKw pos (keywordEach ks env)).map (·.2))) (fun i k=>GH w k.heap∧wpAny (MD w) A (call (.ref d) vs (nm.zip i)) Q E k) E s₁) E s)
  (hd:autoParam ((x==("__debug__" : Str))=false) Dy):wpAny (MD w) A (eval (.Call (.Name x np) es ks pos) env) Q E s:=by
 refine CK (DE ks nm env pos f) fun l o q=>?_;refine wpAny_Call_ofName (BF C g p ?_ hd);refine AD (wpAny_holding (Ae c o ?_));refine wpAny_mono h (fun vs s₁ a=>wpAny_mono a (fun i k y=>?_) fun v v z=>z) fun v v z=>z;refine Bt (y) fun G m=>?_;refine AD (wpAny_standAt ?_);refine AD ((Looks.of_peek G.kin (e _)).here ?_);refine AB (CR es env pos c) ?_;refine AB q ?_;refine AB (Bool.false_or ..) ?_;refine AB l ?_;exact AD (wpAny_mono m (fun r j b=>AD (wpAny_holding (wpAny_point (AM b)))) fun v v z=>z)
theorem LK {x:Str} {T:String} (C:Cx w names n A env s pe) (g:GV x (.type T)) (b:names.lookup x=some .globalImplicit) (e:es.all BK=true)
  (h:wpAny (MD w) A (spliced (backTo pos (starEach es env))) (fun vs s₁=>wpAny (MD w) A (call (.type T) vs) Q E s₁) E s)
  (hd:autoParam ((x==("__debug__" : Str))=false) B8):wpAny (MD w) A (eval (.Call (.Name x np) es [] pos) env) Q E s:=by
 refine wpAny_Call_ofName (BF C g b ?_ hd);refine AD (wpAny_holding (Ae e rfl ?_));refine wpAny_mono h (fun vs s₁ k=>?_) fun v v z=>z;refine AM ?_;refine AD (wpAny_standAt ?_);refine AB (CR es env pos e) ?_;refine AD (AM ?_);exact AD (wpAny_mono k (fun r a y=>AD (wpAny_holding (wpAny_point (AM y)))) fun v v z=>z)
theorem S8 (S):peek (K0 P) S (keeperOf (.ref 265))=some .machine:=by kernel_rfl
theorem OY {ns:List Int} {dp a1 rp kp M:Pos} (hd:pe "data" = some (.BN ns)) (hr:pe "reverse" = some (.fv (.bool b))) (hs:names.lookup "sorted" = some .globalImplicit) (fB:names.lookup "zip" = some .globalImplicit) (hc:names.lookup "count" = some .globalImplicit)
  (h2:2≤ns.length) (h6:ns.length≤6) {A:Around} {env:Env} {s:Shared} {Q:Value→Shared→Prop} {E:Value→Shared→Prop} (C:Cx w names (n+8) A env s pe)
  (k:∀ D c ts vs P s',Step w s s'→s.heap.get? D=none→s'.heap.get? D=some (seqObj "list" ts.toArray c)→CG b ns P→aS s'.heap ns.length vs ts P→Al (A5 ns) vs→PT vs→Q (.ref D) s') :
  wpAny (MD w) A (eval (.Call (.Name "sorted" np) [.Call (.Name "zip" zp) [.Name "data" dp,.Call (.Name "count" a1) [] [] M] [] O] [⟨some "reverse",.Name "reverse" rp,kp⟩] pos) env) Q E s:=by
 refine wpAny_Call_ofName (BF C OX hs ?_)
 refine CK (DE [⟨some "reverse",.Name "reverse" rp,kp⟩] ["reverse"] env pos rfl) fun k1 k2 k3=>?_
 refine callWith_builtin_kwB rfl k3 (Ae rfl k2 ?_)
 show wpAny _ A (spliced ((false,eval (.Call (.Name "zip" zp) [.Name "data" dp,.Call (.Name "count" a1) [] [] M] [] O) env)::[])) _ _ s
 refine spliced_cons (LK C Qa fB rfl ?_)
 show wpAny _ A (spliced ((false,eval (.Name "data" dp) env)::(false,eval (.Call (.Name "count" a1) [] [] M) env)::[])) _ _ s
 refine AF (C.vars "data" _ hd) fun v va rv=>?_
 refine CQ (rv) fun l vs aT hl X S9=>?_;clear rv;obtain rfl:=aT
 refine spliced_cons (Fe C.eo.kd va ?_)
 have K:Step w s s:=Step.refl w s
 have B:=C
 refine spliced_cons (GG (nm:=[]) B Qb hc S8 rfl rfl (spliced_nil (AM ⟨B.gh,?_⟩)))
 refine MN (n:=n+5) B.gh B.ok fun ca Eb t u CN L fa fd I hb=>spliced_nil ?_
 have J:=B.step L
 refine ML F.called_zip (by assumption) (F.typeCall_zip_2 _ _) (F.newCall_zip_2 _ _) (fun obj=>F.args_object_init_3 obj _ _) F.entry_zip_new (S2 (n:=n+4) J.gh J.ok.in1.in1 (L.list B.gh hl) I fun z TI TO i1 V S fz fO fi XR hz hI hO hit X9 Y=>?_)
 have r:=J.step S
 have N:=K.trans L
 refine spliced_nil ?_
 refine(DF (AA hr) Ad) A env V pos _ E r fun kv W i R=>?_
 refine AF (BP R) fun v4 aU r4=>?_;clear R;obtain rfl:=aU
 obtain rfl:=r4
 refine AB k1 ?_
 have fC:=(N.trans S).trans i
 have gt:∀ {a o},V.heap.get? a=some o→o.cls≠.none→¬Af o→W.heap.get? a=some o:=fun e n d=>i.get r.gh e (As n) d
 have aV:ZS w s l vs.toArray z TI TO i1 ca Eb 0 .none (.bool false) t u W:=⟨fC,gt hz (fun q=>nomatch q) (AR rfl),gt hI (fun q=>nomatch q) (AG rfl),⟨_,_,gt hO (fun q=>nomatch q) (AG rfl)⟩,(fun x G=>fun aW=>AY (aW) fun o e c d=>(Aj o (x.get G e (As (by refine AB c ?_;exact fun q=>nomatch q)) (AR d)) c d):∀ {a b:Shared} (x:Step w a b) (G:GH w a.heap) {i1},a.heap.IsListIter i1 l 0→b.heap.IsListIter i1 l 0) i r.gh hit,i.list r.gh X9,Y.step i r.gh,.inl ⟨rfl,rfl⟩⟩
 have hsz:vs.toArray.size=ns.length:=by have:=X.length;simpa using this
 have fE:s.heap.get? l≠none:=by
  refine AF (hl) fun o e _=>?_
  intro h
  injection (h.symm.trans e)
 refine call_function_entry_kw kind_sorted plain_sorted entry_sorted (args_sorted_rev _ _) ?_
 unfold Builtin.«sorted»
 refine AD (m:=checkCount "sorted" 1 1 _) (AM ?_)
 refine AD (LH (n:=n+4) (⟨C.gh,N.gone C.gh fz,N.gone C.gh fO,N.gone C.gh fi,K.gone C.gh fa,K.gone C.gh fd,XR,hb⟩) (r.step i).ok.in1 aV (Nat.lt_of_lt_of_le (by decide) (AJ h2 (Nat.le_of_eq hsz.symm))) (by exact AJ (AJ (Nat.le_of_eq hsz) h6) (DY rfl)) fE fun y g U ha ht=>?_)
 refine AD (wpAny_newList ?_ (by have e:g.toList.length=ns.length:=(by simp [ha,hsz]);refine AB e ?_;exact D3 (AJ h6 (Bh k2))))
 have dA:S7 y.heap ns g.toList:=by
  refine⟨by simp [ha,hsz],fun j hj=>?_⟩
  have H:j<g.size:=Nat.lt_of_lt_of_le hj (Nat.le_of_eq (ha.trans hsz).symm)
  refine CX (ht j g[j] (Array.getElem?_eq_getElem H)) fun T v tk e1 e2 e3 _=>?_
  refine AF (X.get (show vs[j]? = some v by simpa using e2)) fun f dB Yw=>?_
  rw [List.getElem?_map,List.getElem?_eq_getElem hj]at dB
  obtain rfl:=(Ai dB)
  refine Ap (Yw) fun t' a0=>?_;clear Yw;obtain rfl:=a0
  refine(JW T t' tk ((List.getElem_eq_iff H).mp e1) ?_)
  refine Eq.trans e3 ?_;refine AB (show ns.getD j 0=ns[j]from by exact PySem.getD_at hj) ?_;rfl
 have xp:Step w y { y with heap:=y.heap.push (seqObj "list" g.toList.toArray 0) }:=Step.push _ _
 have dD:(y.heap.push (seqObj "list" g.toList.toArray 0)).get? y.heap.objs.size=some (seqObj "list" g.toList.toArray 0):=BD _ rfl
 have fD:s.heap.get? y.heap.objs.size=none:=U.gone C.gh (fresh_at _)
 refine AD (wpAny_holding (wpAny_call_entry_kw slot_list_sort (AQ _ dD rfl) entry_list_sort ?_ (args_list_sort_rev _ _)))
 refine QX (s:={ y with heap:=y.heap.push (seqObj "list" g.toList.toArray 0) }) (ns:=ns) C.gh (U.trans xp) dD fD h2 h6 ⟨dA.1,fun j hj=>DZ (dA.2 j hj) fun T t u a b=>(JW T t u a (Br _ b))⟩ fun p S' c dE Z m hD=>(AQ _ rfl ?_)
 refine AM (AQ _ rfl ?_)
 refine k y.heap.objs.size c _ vs (QY b ns.length p) S' m.st fD hD (JF Z) ⟨?_,fun j hj=>?_⟩ X S9
 ·refine Eq.trans (kat_len ..) ?_;refine Eq.trans (List.length_map ..) ?_;refine Eq.trans Array.length_toList ?_;refine Eq.trans dE ?_;rfl
 ·have fF:=(JF Z).lt j hj
  refine AB (QZ (n:=ns.length) (by simp [ha,hsz]) dE (fun k hk=>(Z k hk).1) hj) ?_
  have H:QY b ns.length p j<g.size:=Nat.lt_of_lt_of_le fF (Nat.le_of_eq (ha.trans hsz).symm)
  refine CX (ht _ g[QY b ns.length p j] (Array.getElem?_eq_getElem H)) fun T v tk e1 e2 e3 _=>?_
  exact(FA T v tk ((List.getElem_eq_iff H).mp e1) (by simpa using e2) (m.tup (not_iter_of_old e3) (Br (seqObj "list" g.toList.toArray 0) e3)))
end
noncomputable abbrev DX (l:Addr) (i:Nat):Obj:={ cls:=.type "list_iterator",data:=.fields #[.ref l,.int i 0] }
noncomputable abbrev R2 (i:Nat):Obj:={ cls:=.type "list_iterator",data:=.fields #[.none,.int i 0] }
theorem BB (x:Value) (i:Nat):CE { cls:=.type "list_iterator",data:=.fields #[x,.int i 0] }:=
 ⟨(fun q=>by injection q),(not_eq_of_beq_eq_false rfl),(fun h=>Bj (h) fun z z d=>by injection d),(fun v d=>by injection d),(fun z z d=>by injection d),(fun vs q t d=>by refine Ar (PySem.Data.fields.inj d) ?_;exact Ne.symm (not_eq_of_beq_eq_false rfl)),rfl⟩
section
variable {w:Wd} {A:Around} {E:Value→Shared→Prop} {s:Shared} {it l:Addr} {i:Nat} {items:Array Value}
set_option genSizeOf false in
inductive JG where
 |item (x:Value) | stop
noncomputable def Fj (o:Obj) (items:Array Value) (l:Addr):JG→Obj→Prop
 |.item x,o'=>∃ i,o=DX l i∧items[i]? = some x∧o'=DX l (i+1)
 |.stop,o'=>∃ i,o'=R2 i∧(o=R2 i∨(o=DX l i∧items[i]? = none))
theorem GI {o:Obj} (e:s.heap.get? a=some o):put s a o=s:=by
 obtain⟨⟨objs,l⟩,g,d,t,os⟩:=s;have h:objs[a]? = some o:=((Heap.get?_eq_some _ _ _).mp e).1
 show({ heap:=⟨objs.modify a fun z=>o,l⟩,gens:=g,drawn:=d,toks:=t,os:=os } : Shared)=_
 congr 2
 apply Array.ext_getElem?;intro i;rw [Array.getElem?_modify]
 by_cases k:a=i
 ·subst k;simp [h]
 ·exact if_neg (by assumption)
theorem LL {h:Type} {s:Shared} {Q:h→Shared→Prop} (x:A.handled=none) (k:∀ e s',Step w s s'→Ep s.heap s'.heap (.type "StopIteration") e none→E (.ref e) s') :
  wpAny (MD w) A (newExc (.type "StopIteration") []>>=fun e=>raiseNew e) Q E s:=by
 obtain⟨y,g,d,tk,os⟩:=s;refine AD ?_;simp only [newExc,newTuple];refine AD (wpAny_newObj_type ?_ (by size_fits));refine AD (m:=firstArgMember _ _) (wpAny_of_eq (a:=Value.none) (by first | rfl | (simp only [firstArgMember];rfl)) ?_);refine wpAny_newObj_type ?_ (by size_fits);dsimp only [raiseNew];refine AD (wpAny_handled ?_);refine AB x ?_;refine AD (AM (wpAny_throw ?_));refine k _ _ ((Step.push _ _).trans (Step.push _ _)) (C0 ?_ _ _ (BD _ rfl) rfl rfl rfl (fun z=>rfl) rfl);exact Heap.get?_none_of_le (by refine AB (Heap.size_push ..) ?_;exact Nat.le_succ _)
theorem NG {r:JG} {o:Obj} (q:A.handled=none) (e:s.heap.get? it=some o) (hl:s.heap.get? l=some (seqObj "list" items c)) (m:Fj o items l r o')
  (h:match r with
   |.item x=>Q x (put s it o')
   |.stop=>(∀ e s',Step w (put s it o') s'→Ep (put s it o').heap s'.heap (.type "StopIteration") e none→E (.ref e) s')) :
  wpAny (MD w) A (call (.builtin "list_iterator.__next__") [.ref it]) Q E s:=by
 obtain⟨p,g,d,tk,os⟩:=s
 induction r with
 |item x=>
  refine AY (m) fun i y n a=>?_;obtain rfl:=y;obtain rfl:=a;have b:Shared.TypeIs ⟨p,g,d,tk,os⟩ (.ref it) "list_iterator":=(AQ _ e rfl)
  refine wpAny_call_entry slot_listiter_next b entry_listiter_next ?_ (args_listiter_next _);show wpAny _ _ (field (.ref it) 0>>=_) _ _ _;refine AD (wpAny_field e rfl (x:=.ref l) rfl ?_);refine AB (if_neg (show ¬((Value.ref l==Value.none)=true)from Bool.false_ne_true)) ?_;refine AD (wpAny_field e rfl (x:=.int i 0) rfl ?_);refine AD (wpAny_seqItems hl rfl ?_);simp only [Int.toNat_natCast,n];refine AD (wpAny_setField e rfl (Nat.one_lt_succ_succ [].length) (AM (AQ x rfl ?_)));refine AB (EN e) ?_;exact h
 |stop=>
  obtain⟨i,rfl,m⟩:=m;refine Or.elim m (fun j=>?_) (fun f=>?_)
  ·obtain rfl:=j;have b:Shared.TypeIs ⟨p,g,d,tk,os⟩ (.ref it) "list_iterator":=(AQ _ e rfl)
   refine wpAny_call_entry slot_listiter_next b entry_listiter_next ?_ (args_listiter_next _);show wpAny _ _ (field (.ref it) 0>>=_) _ _ _;refine AD (wpAny_field e rfl (x:=.none) rfl ?_);refine AB (if_pos (by decide)) ?_;replace h:=(GI e)▸h;exact AD (wpAny_rule (AD (LL q h)))
  ·refine Bt (f) fun k n=>?_;obtain rfl:=k;have b:Shared.TypeIs ⟨p,g,d,tk,os⟩ (.ref it) "list_iterator":=(AQ _ e rfl)
   refine wpAny_call_entry slot_listiter_next b entry_listiter_next ?_ (args_listiter_next _);show wpAny _ _ (field (.ref it) 0>>=_) _ _ _;refine AD (wpAny_field e rfl (x:=.ref l) rfl ?_);refine AB (if_neg (show ¬((Value.ref l==Value.none)=true)from Bool.false_ne_true)) ?_;refine AD (wpAny_field e rfl (x:=.int i 0) rfl ?_);refine AD (wpAny_seqItems hl rfl ?_);simp only [Int.toNat_natCast,n];refine AD (wpAny_rule (AD (wpAny_setField e rfl (size_pos_of_not_empty rfl) ?_)));refine AB (EN e) ?_;exact LL q h
end
theorem TA:GV "next" (.builtin "next"):=Bp (fun z=>rfl) rfl (by decide)
theorem NH:GV "StopIteration" (.type "StopIteration"):=Bp (fun z=>rfl) rfl (by decide)
theorem Qc : exmOne (K0 P) (.type "StopIteration") (.type "StopIteration")=some true:=by kernel_rfl
section
variable {w:Wd} {A:Around} {E:Value→Shared→Prop} {s:Shared} {it l:Addr} {i:Nat} {items:Array Value}
theorem TB {r:JG} {o:Obj} (d:A.handled=none) (e:s.heap.get? it=some o) (hl:s.heap.get? l=some (seqObj "list" items c)) (y:Fj o items l r o')
  (h:match r with
   |.item x=>Q x (put s it o')
   |.stop=>(∀ e s',Step w (put s it o') s'→Ep (put s it o').heap s'.heap (.type "StopIteration") e none→E (.ref e) s')) :
  wpAny (MD w) A (call (.builtin "next") [.ref it]) Q E s:=by
 have b:s.TypeIs (.ref it) "list_iterator":=by
  refine(AQ o e ?_)
  induction r with
  |item x=>refine AF (y) fun i k u=>?_;obtain rfl:=k;rfl
  |stop=>
   refine AF (y) fun i u y=>?_;rcases y with rfl | ⟨rfl,_⟩<;>rfl
 refine call_function_entry (by rfl) (by rfl) kdk_entry_next (kdk_args_next _) ?_;unfold Builtin.«next»
 refine AD (m:=someArgs "next" 1 2 _) (wpAny_of_eq (a:=[Value.ref it]) (by first | rfl | kernel_rfl!) ?_);dsimp only;refine AD (wpAny_specialOf (name:=Str.ofString "__next__") b slot_listiter_next.lookup ?_);refine wpAny_ite_split (fun g=>absurd g (ne_true_of_eq_false rfl)) (fun u=>?_);refine AD (wpAny_callSpecial?_slot (name:=Str.ofString "__next__") b slot_listiter_next (wpAny_mono (NG (A:=A.in1) (r:=r) d e hl y (by cases r<;>exact h)) (fun v s' q=>?_) fun u u z=>z));exact AM (AQ _ rfl q)
noncomputable def JG.pair:JG→Obj
 |.item x=>AU (.bool true) x
 |.stop=>AU (.bool false) .none
theorem FI {x:Str} {id:String} (C:Cx w names n A env s pe) (g:GV x (.builtin id)) (d:names.lookup x=some .globalImplicit) (f:Ev w names n pe e pv)
  (h:∀ v s₁,Step w s s₁→BA s₁.heap pv v→wpAny (MD w) A (call (.builtin id) [v] []) Q E s₁) (b:autoParam (BK e=true) Dy) (hd:autoParam ((x==("__debug__" : Str))=false) Dy) :
  wpAny (MD w) A (eval (.Call (.Name x np) [e] [] pos) env) Q E s:=by
 refine wpAny_Call_ofName (BF C g d ?_ hd);refine callWith_builtin_kwB (CR [e] env pos (by simp [b])) rfl (Ae (by simp [b]) rfl ?_);refine AE f AK b A env s pos _ E C fun vs s₁ a k=>AM ?_;refine AF (BP k) fun v y c=>?_;clear k;obtain rfl:=y;exact h v s₁ a c
theorem Jw {y x:Expr} {k:Nat} (b:BK y=true) (c:BK x=true)
  (h:wpAny (MD w) A (eval y env) (fun a s₁=>wpAny (MD w) A (eval x env) (fun g e=>Q (.ref e.heap.objs.size) { e with heap:=e.heap.push (AU a g) }) E s₁) E s) :
  wpAny (MD w) A (eval (.Tuple [y,x] k pos) env) Q E s:=by
 refine wpAny_Tuple ?_;refine AB (BV b) ?_;refine AB (BV c) ?_;refine spliced_cons (wpAny_mono h (fun a s₁ z=>spliced_cons (wpAny_mono z (fun g e z=>spliced_nil ⟨by exact List.getElem?_eq_none_iff.mp rfl,z⟩) fun v v z=>z)) fun v v z=>z)
theorem De {r:JG} {o:Obj} (h:Fj o items l r o'):CE o∧CE o':=by
 induction r with
 |item x=>refine AY (h) fun i k z e=>?_;obtain rfl:=k;obtain rfl:=e;exact⟨BB _ _,BB _ _⟩
 |stop=>
  obtain⟨i,rfl,h⟩:=h;rcases h with rfl | ⟨rfl,_⟩<;>exact⟨BB _ _,BB _ _⟩
theorem Step.fresh {h:Shared} (x:Step w s₁ h) (G:GH w s₁.heap):s₁.heap.get? h.heap.objs.size=none:=x.gone G (fresh_at _)
set_option maxHeartbeats 1000000 in
theorem OZ {r:JG} {o:Obj} (G:GH w s.heap) (ok:BS w (n+1) A s) (e:(it,o)∈w.led) (hl:(l,seqObj "list" items c)∈w.led) (N:Fj o items l r o') (Y:w.base.get? it=none)
  (k:∀ T s',Step w (put s it o') s'→s'.heap.get? T=some r.pair→(put s it o').heap.get? T=none→Q (.ref T) s') :
  codeAny (MD w) A (.call (.ref 119) ⟨[.ref it],[]⟩) (DH Q E) s:=by
 refine CF (n:=n) (o:=G1) (fd:=fdOf G1) (body:=Ag (BM 8)) (bs:=[("it",.raw (.ref it))]) (binds:=[("it",.ref it)])
  (R:=fun out sg=>∃ T,out = .ret (.raw (.ref T))∧Step w (put s it o') sg∧sg.heap.get? T=some r.pair∧(put s it o').heap.get? T=none)
  G ok rfl rfl rfl (fun S=>rfl) (fun h G=>codeRec_of G.kin (by kernel_rfl)) rfl rfl ⟨rfl,trivial⟩ (fun p hp=>?_) ?_ (fun cls sg U=>by refine AF (U) fun i h i=>?_;injection h) (fun pv sg v s' zq x q=>?_) (fun cls sg e s' M=>by refine AF (M) fun i h i=>?_;injection h) rfl rfl rfl rfl rfl rfl
 ·refine AB (List.mem_singleton.mp hp) ?_;exact .inl rfl
 ·intro A env z s₁ Q E V P F k0 k1 k2;refine Bt (De N) fun m m'=>?_;have H:∀ y,Fm w (Iy (fdOf G1)) (Ct (fdOf G1).scope.names) n A env s none y (PE.sets (fun x=>none) [(Str.ofString "it",PV.raw (Value.ref it))])→
    Fm (w.putL it o') (Iy (fdOf G1)) (Ct (fdOf G1).scope.names) n A env (put s it o') none (put y it o') (PE.sets (fun x=>none) [(Str.ofString "it",PV.raw (Value.ref it))]):=fun y b=>
   b.put (G.led _ e).1 m m' Y Ao (fun d h=>h)
  have B:∀ y K J,Step w (put s it o') y→AU K J=r.pair→GH (w.putL it o') (put s it o').heap→Q (.ret (.ref y.heap.objs.size)) { y with heap:=y.heap.push (AU K J) }:=fun y K J j ev G'=>by
   exact k1 _ _ _ _ (GZ _ rfl (j.trans (Step.push y (AU K J))) (by refine Ar ev ?_;exact BD _ rfl) (j.wit.fresh G')) (Step.refl w _) rfl
  refine wpAny_execs_cons (wpAny_Try_except ?_);refine wpAny_execs_cons (wpAny_Return_some (Jw rfl rfl (wpAny_Constant_bool ?_)));refine FI F.cx TA rfl (AA (pv:=.raw (.ref it)) rfl) fun v y j C=>?_;obtain rfl:=C;have b:=F.step j;have g:=H y b;refine TB (r:=r) b.cx.ok.h (b.cx.gh.led _ e).1 (b.cx.gh.led _ hl).1 N ?_;clear k0 k1 k2;induction r with
  |item x=>exact B _ _ _ g.st.Bd rfl g.g0
  |stop=>
   intro ex Z t I;refine AF (g.cx.ok.f) fun fl u fk=>?_;replace u:=V▸u;obtain rfl:env::z=fl:=Ai u;refine L' (w:=w.putL it o') (s₀:=put s it o') V P g.cx.eo g.g0 (g.st.trans t.wit) (fk.step (w:=w.putL it o') t.wit) (.inl rfl) (I.old fun a h=>g.st.gone g.g0 h) NH rfl Qc rfl fun aP O X hY=>?_;exact wpAny_execs_cons (wpAny_Return_some (Jw rfl rfl (wpAny_Constant_bool (wpAny_Constant_none (B _ _ _ O.Bd rfl g.g0)))))
 ·refine Cy zq fun T h1 W h3 h4=>?_;obtain rfl:=(Internal.Out.ret.inj h1);obtain rfl:=q;refine Bt (De N) fun m m'=>?_;exact k T s' (W.trans x) ((x.wit (L:=CJ w.led it o') (D:=w.Bm)).get (W.wit.gh (G.put (G.led _ e).1 m m' Y Ao fun d h=>h)) h3 (by cases r<;>exact Ab rfl) (by cases r<;>exact AG rfl)) h4
end
section
variable {w:Wd} {A:Around} {E:Value→Shared→Prop} {s:Shared} {n:Nat}
theorem same_int {p q:Int} {Q:Bool→Shared→Prop} (G:GH w s.heap) (j:t≠0) (m:u≠0) (b:t=u→p=q) (k:∀ r,(r=true→p=q)→Q r s):wpAny (MD w) A (isSame (.int p t) (.int q u)) Q E s:=by
 have a:(t==0)=false:=beq_eq_false_iff_ne.mpr j;have g:(u==0)=false:=beq_eq_false_iff_ne.mpr m;show wpAny _ _ (if p==q&&smallInt p then isSame.cachedInt t u else isSame.created (p==q) t u) _ _ _
 by_cases h:(p==q&&smallInt p)=true
 ·refine AB (if_pos h) ?_;unfold isSame.cachedInt;refine AB a ?_;refine AB g ?_;refine AB (if_neg (by decide)) ?_;exact AD (wpAny_rule (AM (k _ fun z=>by simp at h;exact h.1)))
 ·refine AB (if_neg h) ?_;unfold isSame.created;refine AB a ?_;refine AB g ?_;refine AB (if_neg (by decide)) ?_
  by_cases e:(t==u)=true
  ·refine AB (if_pos e) ?_;exact AM (k _ fun z=>b (beq_iff_eq.mp e))
  ·refine AB (if_neg e) ?_
   by_cases y:(!(p==q))=true
   ·refine AB (if_pos y) ?_;exact AM (k _ fun h=>by injection h)
   ·refine AB (if_neg y) ?_;refine AF (G.told) fun o l i=>?_;have x:∀ (t:Tok) {d:Type} (f:Bool→Sem d) (c:d→Shared→Prop),wpAny (MD w) A (f false) c E s→wpAny (MD w) A (sharingNotTold t>>=f) c E s:=fun t d f c h=>by
     refine AD (AD (wpAny_nsGet l ?_));refine AB i ?_;exact AM h
    refine x t _ _ ?_;refine x u _ _ ?_;refine AD (wpAny_rule ?_);refine AD (wpAny_askSetting ?_);exact AM (k _ fun z=>(by simpa using y))
theorem V1 {oc:List Str} {own:Option Str} {P:Bool→Prop} {out:Out} {t:Expr} {e x:List Stmt}
  (d:∀ A env s (Q:Bool→Shared→Prop) E,Cx w names n A env s pe→(∀ b s',P b→Step w s s'→Q b s')→wpAny (MD w) A (isTrue t env (eval t env)) Q E s) (h:∀ b,P b→Hr w names oc n own pe ((if b then body else e)++x) out s₀):Hr w names oc n own pe (.If t body e pos::x) out s₀:=
 fun A env y s Q E a hl F k=>Dc (d A env s _ E F.cx fun b s₁ c g=>h b c A env y s₁ Q E a hl (F.step g) k)
theorem TC {p q:Int} (B:t≠0) (J:u≠0) (c:t=u→p=q):Dm w (n+1) (.ref 126) [.raw (.int p t),.raw (.int q u)] [] [] (.ret (.fv (.bool (p==q)))):=by
 refine Jk (o:=Mg) (fd:=fdOf Mg) (body:=Ag (BM 9)) (bs:=[("a",.raw (.int p t)),("b",.raw (.int q u))]) rfl rfl rfl rfl (fun vs ks h d m=>?_) (fun h G=>codeRec_of G.kin (by kernel_rfl)) (fun p I=>?_) ?_ rfl rfl rfl rfl rfl rfl
 ·refine AW (Bi d) fun v H g i F=>?_;clear d;obtain rfl:=g;obtain rfl:=A6 m;exact⟨[("a",v),("b",H)],fun S=>rfl,rfl,i,F,trivial⟩
 ·exact locs (by rfl) p I
 ·intro s₀;refine V1 (P:=fun r=>r=true→p=q) (fun A env s Q E C k=>?_) fun b z=>?_
  ·refine wpAny_isTrue_Compare1 (AA (pv:=.raw (.int p t)) rfl (by rfl) (by rfl) A env s _ E C fun K s₁ x l=>AA (pv:=.raw (.int q u)) rfl (by rfl) (by rfl) A env s₁ _ E (C.step x) fun L a y j=>?_) (by with_unfolding_all rfl);refine AB l ?_;refine AB j ?_;exact AD (same_int ((C.step x).step y).gh B J c fun r D=>AM (wpAny_truthy_bool (k r a D (x.trans y))))
  ·induction b with
   |true=>
    have e:=z rfl;refine AB e ?_;refine AB (beq_self_eq_true ..) ?_;exact CA (B' _ _ _) s₀
   |false=>
    by_cases e:(p==q)=true
    ·refine AB e ?_;exact Er (An (BU (BI (f:=.int p) (AA rfl) ⟨_,rfl⟩) (BI (f:=.int q) (AA rfl) ⟨_,rfl⟩) Cv) e) (CA (B' _ _ _)) s₀
    ·rw [Bool.not_eq_true]at e;refine AB e ?_;exact BW (An (BU (BI (f:=.int p) (AA rfl) ⟨_,rfl⟩) (BI (f:=.int q) (AA rfl) ⟨_,rfl⟩) Cv) e) (CA (B' _ _ _)) s₀
end
section
variable {w:Wd} {names:BC} {oc:List Str} {n:Nat} {pe:PE} {R:Out→Shared→Prop} {s₀:Shared}
theorem Oa {f:Addr} {o:Obj} {vs:List Value} {kw:List (Str×Value)} {binds:List (Str×Value)} {bs:List (Str×PV)}
  (G:GH w s.heap) (ok:BS w (n+1) A s) (ho:(K0 w.w.params).lookup f=some o) (aX:o.data = .func fd) (YA:fd.body = .stmts body)
  (hb:∀ (Q':List (Str×Value)→Shared→Prop) (E':Value→Shared→Prop),Q' binds s₁→wpAny (MD w) A.in1 (bindArgs fd ⟨vs,kw⟩) Q' E' s) (xb:Step w s s₁) (hcd:∀ h,GH w h→h.CodeRec fd.code fd.qualname)
  (VY:fd.closure=[]) (fG:binds.map (·.1)=bs.map (·.1)) (hr:Bs s₁.heap (bs.map (·.2)) (binds.map (·.2))) (aY:∀ p∈bs,fd.scope.names.lookup p.1=some .local∨(p.1∈Ct fd.scope.names∧fd.scope.names.lookup p.1=some .cell))
  (hB:Gj w (Iy fd) (Ct fd.scope.names) n (PE.sets (fun z=>none) bs) body R s₁) (hR:∀ cls sg,R (.exc cls) sg→∃ L D,GH (w.wit L D) sg.heap)
  (k1:∀ pv sg v s',R (.ret pv) sg→Step w sg s'→BA s'.heap pv v→Q v s')
  (k2:∀ cls sg e s',R (.exc cls) sg→Step w sg s'→Ep sg.heap s'.heap cls e (some none)→E (.ref e) s')
  (aZ:namesOk fd.scope.names=true) (fH:fd.globals=mainGlobals) (aa:fd.builtins=builtinsNs)
  (Yo:fd.scope.isCoroutine=false) (ab:fd.scope.isGenerator=false) (hk:fd.scope.kind = .function) :
  codeAny (MD w) A (.call (.ref f) ⟨vs,kw⟩) (DH Q E) s:=by
 refine codeAny_call_function (prog:=PR) (w:=w.w) (by have:=ok.d;show A.depth<1000;exact Nu this) (G.kin f o ho) aX Yo ab YA (hcd _ G) (hb _ _ ?_);refine enter (xb.gh G) (ok.step xb) (by refine AB VY ?_;exact Dh) (pc:=fun z=>none) (fun z z h=>by injection h) fG hr aY (fun env l CN hl e4 dF Sd=>⟨Sd.cx.gh.nolimit,codeAny_func ?_⟩) aZ fH aa hk;refine hB (A.deeper env) env l CN _ _ (Around.frames_deeper hl) e4 Sd (fun sg s' hr x=>k1 _ sg .none s' hr x rfl) (fun pv sg v s' hr x r=>k1 pv sg v s' hr x r) fun cls sg e st s' hr aY ae x X=>?_;refine Bj (hR cls sg hr) fun L D Gs=>?_;exact leave (w:=w.wit L D) (Around.frames_deeper hl) ae e4 Gs x.wit X aY fun h' z x' X'=>k2 cls sg e _ hr x'.Bd X'
theorem TF {k:Nat} (y:BK e=true)
  (h:wpAny (MD w) A (eval e env) (fun x s₁=>Q (.ref s₁.heap.objs.size) { s₁ with heap:=s₁.heap.push { cls:=.type "tuple",data:=.seq #[x] } }) E s) :
  wpAny (MD w) A (eval (.Tuple [e] k pos) env) Q E s:=by
 refine wpAny_Tuple ?_;refine AB (BV y) ?_;exact spliced_cons (wpAny_mono h (fun x s₁ z=>spliced_nil ⟨by exact List.getElem?_eq_none_iff.mp rfl,z⟩) fun v v z=>z)
theorem LM {b:Addr} (e:s.heap.get? a=some { cls:=.type "tuple",data:=.seq items }) (k:s.heap.get? b=some { cls:=.type "tuple",data:=.seq #[] }) (x:¬items.isEmpty=true)
  (h:Q (.ref a) s):wpAny (MD w) A (binaryOp .Add (.ref a) (.ref b)) Q E s:=
 concat_meets (AQ _ e rfl) (AQ _ k rfl) noFill_tuple_add seq_tuple_add PySem.F.slot_tuple_add PySem.F.entry_tuple_add (PySem.F.args_tuple_add_2 _ _) (tuple_addW1 a b items #[] 0 0 none none #[] #[] x rfl) (B2 e k h)
noncomputable abbrev Ex (items:Array Value):Obj:={ cls:=.type "tuple",data:=.seq items }
theorem TG : bindArgs (fdOf Mh) ⟨[.ref a,v],[]⟩=(newTuple []>>=fun t=>pure [(("self" : Str),Value.ref a),(("item" : Str),v),(("items" : Str),t)]):=by kernel_rfl
set_option maxHeartbeats 1000000 in
theorem MO {t:Addr} (G:GH w s.heap) (X:BS w (n+1) A s) (I:Aq w a t 310 #[]) (W:w.base.get? a=none)
  (k:∀ T s',Step w (put s a (AX 310 t #[some (.ref T)])) s'→s'.heap.get? T=some (Ex #[v])→s.heap.get? T=none→Q .none s') :
  codeAny (MD w) A (.call (.ref 285) ⟨[.ref a,v],[]⟩) (DH Q E) s:=by
 have H:Step w s { s with heap:=s.heap.push (Ex #[]) }:=Step.push s _;refine Oa (n:=n) (s₁:={ s with heap:=s.heap.push (Ex #[]) }) (o:=Mh) (fd:=fdOf Mh) (body:=Ag (BQ 15 2)) (bs:=[("self",.raw (.ref a)),("item",.raw v),("items",.raw (.ref s.heap.objs.size))])
  (binds:=[("self",.ref a),("item",v),("items",.ref s.heap.objs.size)])
  (R:=fun out sg=>∃ T,out = .ret (.fv .none)∧Step w (put s a (AX 310 t #[some (.ref T)])) sg∧sg.heap.get? T=some (Ex #[v])∧s.heap.get? T=none)
  G X rfl rfl rfl (fun Q' E' h=>?_) H (fun h G=>codeRec_of G.kin (by kernel_rfl)) rfl rfl (EX rfl rfl rfl trivial) (fun p hp=>?_) ?_ (fun cls sg J=>by refine AF (J) fun _ h _=>?_;injection h) (fun pv sg v s' zq x q=>?_) (fun cls sg e s' L=>by refine AF (L) fun _ h _=>?_;injection h) rfl rfl rfl rfl rfl rfl
 ·refine AB TG ?_;exact AD (wpAny_newTuple (AM h))
 ·exact locs (by rfl) p hp
 ·refine Ca C6 ?_;intro A env N s₁ Q E hf Z F k0 k1 k2;refine wpAny_execs_cons (plainObj_wpAny_Assign_Attribute ?_ rfl);refine wpAny_BinOp (TF rfl (AA (pv:=.raw v) rfl (by rfl) (by rfl) A env s₁ _ E F.cx fun P b i u=>?_));obtain rfl:P=v:=u;have g:=(F.step i).step (Step.push (w:=w) b (Ex #[P]));refine AA (pv:=.raw (.ref s.heap.objs.size)) rfl (by rfl) (by rfl) A env _ _ E g.cx fun v2 j f z=>?_;refine AB z ?_;have y:=g.step f;have S:j.heap.get? s.heap.objs.size=some (Ex #[]):=y.st.get F.g0 (BD _ rfl) (Ab rfl) (AG rfl);have B:=f.get g.cx.gh (BD _ rfl) (Ab rfl) (AG rfl);refine LM B S (ne_true_of_eq_false rfl) ?_;refine AA (pv:=.raw (.ref a)) rfl (by rfl) (by rfl) A env j _ E y.cx fun v3 l r D=>?_;refine AB D ?_;have c:=y.step r;refine FH c.cx.gh I Uv (Nat.zero_lt_succ 999) ?_;refine wpAny_execs_nil ?_;have M:=(G.led _ I.a).1;have m:=AH 310 t #[];have xs:Step w s l:=H.trans c.st;have xx:=xs.put M m (AH 310 t #[some (.ref b.heap.objs.size)]) (HQ G M m);have C:=r.get y.cx.gh B (Ab rfl) (AG rfl);refine k0 _ _ (GZ b.heap.objs.size rfl xx ?_ ?_) (Step.Bu _)
  ·exact((Heap.SameBut.update l.heap a _).2 _ (BY (C) (xs.get G M m.nt m.d1) (by simp))).trans C
  ·exact(H.trans (F.st.trans i)).gone G (fresh_at _)
 ·refine Cy zq fun T V O Y U=>?_;obtain rfl:=(Internal.Out.ret.inj V);obtain rfl:=q;have K:GH (w.putL a (AX 310 t #[some (.ref T)])) (put s a (AX 310 t #[some (.ref T)])).heap:=G.put ((G.led _ I.a).1) (AH _ _ _) (AH _ _ _) W Ao fun d h=>h;exact k T s' (O.trans x) (x.wit.get (O.wit.gh K) Y (Ab rfl) (AG rfl)) U
end
section
variable {w:Wd} {names:BC} {oc:List Str} {n:Nat} {pe:PE} {R:Out→Shared→Prop} {s₀:Shared}
theorem is_tup (e:h.get? a=some (Ex items)):IsTup h a items:=(Cc _ e rfl _ rfl)
theorem TH {x:Str} {d:Pos} (b:names.lookup "len" = some .globalImplicit) (y:pe x=some (.raw (.ref a))) (hl:(a,Ex items)∈w.led) (c:items.size≤1000) (hd:autoParam ((x==("__debug__" : Str))=false) Dy) (g:autoParam ((x==("__classdict__" : Str))=false) Dy) :
  Ev w names n pe (.Call (.Name "len" np) [.Name x d] [] pos) (.fv (.int items.size)):=fun A env s Q E C k=>
 FI C H4 b (AA y hd g) fun v s₁ h e=>by
  refine AB e ?_;exact Ak (len_tuple (is_tup ((C.step h).gh.led _ hl).1) (by exact Kc (Hd c) (DY rfl)) fun m=>k _ _ (h.trans (Step.toks s₁ _ m)) ⟨_,rfl⟩)
theorem LN {x:Str} {d:Expr} (m:pe x=some (.raw (.ref a))) (hl:(a,Ex items)∈w.led) (z:Ev w names n pe d (.fv (.int i))) (l:items[i]? = some v) (q:i<1000)
  (t:autoParam (∀ u,subscripted d false (.ref a) (.int i u)=operate [.ref a,.int i u] (getItem (.ref a) (.int i u))) cF) (B:autoParam (∀ r,letTemporaryGo (.Name x np) (.ref a) r=pure ()) cF)
  (hd:autoParam ((x==("__debug__" : Str))=false) Dy) (p:autoParam ((x==("__classdict__" : Str))=false) Dy) :
  Ev w names n pe (.Subscript (.Name x np) d pos) (.raw v):=fun A env s Q E C k=>
 Subscript_ (AA m hd p A env s _ E C fun o s₁ e g=>z A env s₁ _ E (C.step e) fun D f y b=>by
  obtain rfl:=g;obtain⟨u,rfl⟩:=b;have c:i<items.size:=by
   refine Or.elim (Nat.lt_or_ge i items.size) (fun h=>?_) (fun h=>?_)
   ·exact h
   ·injection ((Array.getElem?_eq_none h).symm.trans l)
  exact item_tuple (is_tup (((C.step e).step y).gh.led _ hl).1) (by exact Int.neg_ofNat_le_natCast (2^63) i) (by exact Kc (ZD q) (DY rfl)) (j:=i) (by simp [seqIndex?];exact Ww c) l (k _ _ (e.trans y) rfl) (t u) B)
end
noncomputable def LO (h:Heap) (Z:Addr→Bool):Heap:={ h with objs:=h.objs.mapIdx fun i o=>if Z i then { o with data:=.freed } else o }
theorem Ey {Z:Addr→Bool} (z:Z a=true):(LO h Z).get? a=none:=by
 unfold LO Heap.get?;simp only [Array.getElem?_mapIdx,z,if_true];cases h.objs[a]?<;>rfl
theorem Bv {Z:Addr→Bool} (z:Z a=false):(LO h Z).get? a=h.get? a:=by
 unfold LO Heap.get?;rw [Array.getElem?_mapIdx,z];cases h.objs[a]?<;>rfl
noncomputable abbrev FZ (s:Shared) (Z:Addr→Bool):Shared:={ s with heap:=LO s.heap Z }
section
variable {w:Wd} {s₀ s:Shared} {Z:Addr→Bool}
theorem Step.free (x:Step w s₀ s) (G:GH w s₀.heap) (z:∀ a,Z a=true→s₀.heap.get? a=none) (E:∀ a,Z a=true→∀ o,s.heap.get? a=some o→∀ vs,o.data≠.fields vs):Step w s₀ (FZ s Z):=by
 have k:∀ {a o},s₀.heap.get? a=some o→Z a=false:=fun {a o} e=>by
  cases h:Z a with
  |false=>rfl
  |true=>injection ((z a h).symm.trans e)
 refine⟨fun a o n d e=>(Bv (k e)).trans (x.keep a o n d e),fun a o e d=>?_,fun P B y e=>?_,fun b p i=>?_,x.os,x.gens,x.tk⟩
 ·refine Ap (x.EZ a o e d) fun F q=>?_;exact⟨F,(Bv (k e)).trans q⟩
 ·refine Ap (x.grow P B y e) fun m q=>?_;exact⟨m,(Bv (k e)).trans q⟩
 ·refine AY (x.tabs b p i) fun y e t c=>?_;refine AF (b p i) fun r D Y=>?_;refine(Aj y ((Bv (k D)).trans e) t (fun pos C u=>?_))
  refine Ax (c pos C u) fun g oc vs tk l j f v=>?_;refine(Ba g oc vs tk l ((Bv ?_).trans j) f v)
  cases h:Z g with
  |false=>rfl
  |true=>exact absurd f (E g h oc j vs)
theorem Step.V2:Step w (FZ s Z) s:=by
 have k:∀ {a o},(FZ s Z).heap.get? a=some o→s.heap.get? a=some o:=fun {a o} e=>by
  cases h:Z a with
  |false=>rwa [Bv h]at e
  |true=>injection ((Ey h).symm.trans e)
 exact⟨fun a o z z e=>k e,fun a o e z=>⟨o.slots,k e⟩,fun P z g e=>⟨#[],by exact k e⟩,fun y p x=>(y p x).keeps fun b o e=>k e,rfl,fun h=>h,Nat.le_refl _⟩
end
section
variable {w:Wd} {names:BC} {oc:List Str} {n:Nat} {A:Around} {env:Env} {s₀ s₁ s:Shared} {own:Option Str} {pe:PE}
theorem Fm.rebase (F:Fm w names oc n A env s₀ own s pe):∃ Z:Addr→Bool,Step w s₀ (FZ s Z)∧Fm w names oc n A env (FZ s Z) own s pe∧
  (∀ b,Z b=true→(∃ o,s.heap.get? b=some o∧Af o∧b=env.locals)∨(∃ o v,s.heap.get? b=some o∧o.data = .cell v)∨(∃ x,own=some x∧AZ s.heap env x (.ref b))):=by
 classical
 let Z:Addr→Bool:=fun b=>decide (b=env.locals∨(∃ x∈oc,env.cells.lookup x=some b)∨∃ x,own=some x∧∃ xs vs,pe x=some (.list xs)∧AZ s.heap env x (.ref b)∧s.heap.PlainList b vs∧s₀.heap.get? b=none);have C:∀ {b},Z b=true↔(b=env.locals∨(∃ x∈oc,env.cells.lookup x=some b)∨∃ x,own=some x∧∃ xs vs,pe x=some (.list xs)∧AZ s.heap env x (.ref b)∧s.heap.PlainList b vs∧s₀.heap.get? b=none):=fun {b}=>decide_eq_true_iff;have g:∃ o,s.heap.get? env.locals=some o∧Af o:=by
  refine D5 (F.ns) fun m o es S e d _=>?_;exact(PN o e es S d)
 have V:∀ a,Z a=true→s₀.heap.get? a=none:=fun a h=>by
  refine Or.elim (C.mp h) (fun G=>?_) (fun Q=>Or.elim Q (fun P=>?_) (fun I=>?_))
  ·refine AB G ?_;exact F.lf
  ·refine AF (P) fun x y D=>?_;refine CQ (F.HL x y) fun c v i _ k _=>?_;refine AB (B6 D i) ?_;exact k
  ·refine Iq (I) fun x _ xs vs _ _ _ h=>?_;exact h
 have zf:∀ a,Z a=true→∀ o,s.heap.get? a=some o→∀ vs,o.data≠.fields vs:=fun a h o e vs d=>by
  refine Or.elim (C.mp h) (fun L=>?_) (fun J=>Or.elim J (fun M=>?_) (fun E=>?_))
  ·clear h;obtain rfl:=L;refine VO (g) fun o' Y _ _ T=>?_;obtain rfl:=(B6 e Y);injection (d.symm.trans T)
  ·refine AF (M) fun x y D=>?_;refine AW (F.HL x y) fun c v i z _=>?_;refine AF (z) fun R q r=>?_;clear z;obtain rfl:=(B6 D i);obtain rfl:=(B6 e q);injection (d.symm.trans r)
  ·refine Iq (E) fun x _ xs us _ _ l _=>?_;refine Ap (l) fun nn q=>?_;obtain rfl:=(B6 e q);injection d
 have t:Step w s₀ (FZ s Z):=F.st.free F.g0 V zf;refine(Aj Z t ⟨F.cx,t.gh F.g0,Step.V2,F.ns,Ey (C.mpr (.inl rfl)),F.lb,fun x y=>?_,fun x y=>?_⟩ (fun b X=>?_))
 ·refine CQ (F.HL x y) fun c v i j k u=>?_;exact(E9 c v i j (Ey (C.mpr (.inr (.inl ⟨x,y,i⟩)))) u)
 ·refine B9 (F.ow x y) fun a xs vs p q l r f u=>?_;exact(C3 a xs vs p q l r (Ey (C.mpr (.inr (.inr ⟨x,y,xs,_,p,q,l,f⟩)))) u)
 ·refine Or.elim (C.mp X) (fun N=>?_) (fun O=>Or.elim O (fun K=>?_) (fun H=>?_))
  ·refine AB N ?_;refine AF (g) fun o e d=>?_;exact .inl (Aj o e d rfl)
  ·refine AF (K) fun x y D=>?_;refine AW (F.HL x y) fun c v i B _=>?_;refine AF (B) fun R q r=>?_;refine AB (B6 D i) ?_;exact .inr (.inl (Dj _ _ q r))
  ·refine D4 (H) fun x W xs vs _ U _=>?_;exact .inr (.inr (AQ x W U))
theorem Fm.down (F:Fm w names oc n A env s₁ own s pe) (G:GH w s₀.heap) (x:Step w s₀ s₁):Fm w names oc n A env s₀ own s pe:=
 ⟨F.cx,G,x.trans F.st,F.ns,x.gone G F.lf,F.lb,fun y h=>CQ (F.HL y h) fun c v i j k u=>⟨c,v,i,j,x.gone G k,u⟩,fun y h=>B9 (F.ow y h) fun a xs vs p q l r f u=>⟨a,xs,vs,p,q,l,r,x.gone G f,u⟩⟩
theorem Fm.wit (F:Fm w names oc n A env s₀ own s pe) {L:List (Addr×Obj)} {D:List Addr} (h:∀ p∈L,s₀.heap.get? p.1=some p.2∧p.2.cls≠.none∧¬Af p.2) (e:∀ d∈D,∃ k,s₀.heap.get? d=some { cls:=.type "dict",data:=.dict #[],slots:=k }) :
  Fm (w.wit L D) names oc n A env s₀ own s pe:=by
 have g:=F.g0.wit h e;exact⟨⟨F.cx.eo,(F.st.wit).gh g,F.cx.ok.wit,F.cx.vars⟩,g,F.st.wit,F.ns,F.lf,F.lb,F.HL,F.ow⟩
theorem Fm.Bd {L:List (Addr×Obj)} {D:List Addr} (F:Fm (w.wit L D) names oc n A env s₀ own s pe) (G:GH w s₀.heap):Fm w names oc n A env s₀ own s pe:=
 ⟨⟨F.cx.eo,F.st.Bd.gh G,F.cx.ok.Bd,F.cx.vars⟩,G,F.st.Bd,F.ns,F.lf,F.lb,F.HL,F.ow⟩
end
theorem TJ:GV "iter" (.builtin "iter"):=Bp (fun z=>rfl) rfl (by decide)
noncomputable def Ah (cg ck cv:Value) (hc hv ht:Bool) (it kf se tk:Value):Array (Option Value):=#[some cg,some ck,some cv,some (.bool hc),some (.bool hv),some (.bool ht),some it,some kf,some se,some tk]
section
variable {w:Wd} {n:Nat}
theorem Ob (hl:s.heap.get? l=some (seqObj "list" items c)) (h:Q (.ref s.heap.objs.size) { s with heap:=s.heap.push (DX l 0) }) :
  wpAny (MD w) A (call (.builtin "iter") [.ref l]) Q E s:=by
 refine call_function_entry (by rfl) (by rfl) kdk_entry_iter (kdk_args_iter _) ?_;refine AD (m:=someArgs "iter" 1 2 _) (wpAny_of_eq (a:=[Value.ref l]) (by first | rfl | kernel_rfl!) ?_);exact AD (wpAny_pyIter_list (Cc _ hl rfl _ rfl) (AM (AQ _ rfl h)))
theorem Aq.add {h:Addr} {k:Array (Option Value)} (I:Aq w a h C k) {p:Addr×Obj} : Aq (w.wit (p::w.led) w.Bm) a h C k:=⟨List.mem_cons_of_mem _ I.a,I.d⟩
theorem Qd (kf h k e:Value):AP (AP (AP (AP (AP (AP (AP (AP (AP (AP #[] 7 kf) 6 h) 5 (.bool false)) 9 .none) 3 (.bool false)) 1 .none) 4 (.bool false)) 2 .none) 0 k) 8 e=Ah k .none .none false false false h kf e .none:=by kernel_rfl
noncomputable def dG (w:Wd) (s:Shared) (a dx l ig:Addr) (out:Out) (sg:Shared):Prop:=
 ∃ it t u,out = .ret (.fv .none)∧Step w (put s a (AX 167 dx (Ah (.int 0 t) .none .none false false false (.ref it) (.ref ig) (.int 0 u) .none))) sg∧sg.heap.get? it=some (DX l 0)∧s.heap.get? it=none∧it≠a
set_option maxHeartbeats 2000000 in
theorem MP {b g:Addr} (G:GH w s.heap) (ok:BS w (n+1) A s) (I:Aq w a b 167 #[]) (hb:w.base.get? a=none) (hl:(l,seqObj "list" items c)∈w.led)
  (k:∀ z t u s',Step w (put s a (AX 167 b (Ah (.int 0 t) .none .none false false false (.ref z) (.ref g) (.int 0 u) .none))) s'→s'.heap.get? z=some (DX l 0)→s.heap.get? z=none→z≠a→w.base.get? z=none→Q .none s') :
  codeAny (MD w) A (.call (.ref 142) ⟨[.ref a,.ref l],[("key",.ref g)]⟩) (DH Q E) s:=by
 refine CF (n:=n) (o:=O8) (fd:=fdOf O8) (body:=Ag (BQ 10 1)) (bs:=[("self",.raw (.ref a)),("iterable",.raw (.ref l)),("key",.raw (.ref g))]) (binds:=[("self",.ref a),("iterable",.ref l),("key",.ref g)])
  (R:=dG w s a b l g)
  G ok rfl rfl rfl (fun S=>rfl) (fun h G=>codeRec_of G.kin (by kernel_rfl)) rfl rfl (EX rfl rfl rfl trivial) (fun p hp=>?_) ?_ (fun cls sg h=>by refine DZ (h) fun _ _ _ h _=>?_;injection h) (fun pv sg v s' hR x r=>?_) (fun cls sg e s' h=>by refine DZ (h) fun _ _ _ h _=>?_;injection h) rfl rfl rfl rfl rfl rfl
 ·exact locs (by rfl) p hp
 ·refine Aw (a:=a) rfl (AA (pv:=.raw (.ref g)) rfl) I QG hb (fun v1 h1=>?_);refine AB (Cj h1) ?_;intro A env outer s₁ Q E hf fJ F k0 k1 k2;refine wpAny_execs_cons (plainObj_wpAny_Assign_Attribute ?_ rfl);refine FI F.cx TJ rfl (AA (pv:=.raw (.ref l)) rfl) fun v y M a4=>?_;refine AB a4 ?_;have N:=F.step M;refine Ob (N.cx.gh.led _ (Bx hl (BY (G.led _ hl).1 (G.led _ I.a).1 (by simp)))).1 ?_;have B:=N.step (Step.push (w:=w.putL a (AX 167 b (AP #[] 7 (.ref g)))) y (DX l 0));refine AA (pv:=.raw (.ref a)) rfl (by rfl) (by rfl) A env _ _ E B.cx fun v3 j K a5=>?_;refine AB a5 ?_;have q:=B.step K;have eI:=K.get B.cx.gh (BD y.heap (o:=DX l 0) rfl) (BB _ _).nt (BB _ _).d1;refine AY (q.rebase) fun Z xz Fz hz=>?_;have zI:Z y.heap.objs.size=false:=by
   cases h:Z y.heap.objs.size with
   |false=>rfl
   |true=>
    refine Or.elim (hz _ h) (fun a6=>?_) (fun Y=>Or.elim Y (fun V3=>?_) (fun a3=>?_))
    ·refine AY (a6) fun o e d _=>?_;obtain rfl:=(B6 eI e);exact absurd d (BB _ _).d1
    ·refine CD (V3) fun o v e d=>?_;obtain rfl:=(B6 eI e);injection d
    ·refine AF (a3) fun x h _=>?_;injection h
  have X:(FZ j Z).heap.get? y.heap.objs.size=some (DX l 0):=(Bv zI).trans eI;have m:Aq (w.putL a (AX 167 b (AP #[] 7 (.ref g)))) a b 167 (AP #[] 7 (.ref g)):=I.hit;have a1:(put s a (AX 167 b (AP #[] 7 (.ref g)))).heap.get? a=some (AX 167 b (AP #[] 7 (.ref g))):=(F.g0.led _ m.a).1;have T:y.heap.objs.size≠a:=BY eI (q.cx.gh.led _ m.a).1 (by simp);have f0:s.heap.get? y.heap.objs.size=none:=((Heap.SameBut.update s.heap a _).2 _ T).symm.trans (F.st.gone F.g0 (M.gone F.cx.gh (fresh_at _)));have Fw:=Fz.wit (L:=(y.heap.objs.size,DX l 0)::CJ w.led a (AX 167 b (AP #[] 7 (.ref g)))) (D:=w.Bm) (fun p hp=>by
   refine Or.elim (List.mem_cons.mp hp) (fun a2=>?_) (fun hp=>?_)
   ·refine AB a2 ?_;exact(B2 X ((BB _ _).c1) ((BB _ _).d1))
   ·exact Fz.g0.led p hp) Fz.g0.Bm
  have C:Aq ((w.putL a (AX 167 b (AP #[] 7 (.ref g)))).wit ((y.heap.objs.size,DX l 0)::CJ w.led a (AX 167 b (AP #[] 7 (.ref g)))) w.Bm) a b 167 (AP #[] 7 (.ref g)):=m.add;refine FH q.cx.gh m Ut (Nat.lt_of_sub_eq_succ rfl) ?_;generalize hW:(w.putL a (AX 167 b (AP #[] 7 (.ref g)))).wit ((y.heap.objs.size,DX l 0)::CJ w.led a (AX 167 b (AP #[] 7 (.ref g)))) w.Bm=W at Fw C;have P:W.base=w.base:=by refine Ar hW ?_;rfl
  have U:=Fw.put (L:=CJ W.led a (AX 167 b (AP (AP #[] 7 (.ref g)) 6 (.ref y.heap.objs.size)))) (D:=W.Bm) ((Fw.g0.led _ C.a).1) (AH _ _ _) (AH _ _ (AP (AP #[] 7 (.ref g)) 6 (.ref y.heap.objs.size))) (by refine AB P ?_;exact hb) Ao (fun d h=>h);refine C8 (R:=dG w s a b l g) (w:=w.putL a (AX 167 b (AP #[] 7 (.ref g)))) (w':=W.putL a (AX 167 b (AP (AP #[] 7 (.ref g)) 6 (.ref y.heap.objs.size)))) P (by refine Ar hW ?_;rfl) ?_ hf fJ (U.step (s':={ put j a (AX 167 b (AP (AP #[] 7 (.ref g)) 6 (.ref y.heap.objs.size)))with toks:=j.toks+1 }) (Step.Bu _)) k0 k1 k2;have J:=C.hit (sl':=AP (AP #[] 7 (.ref g)) 6 (.ref y.heap.objs.size));have i:W.base.get? a=none:=by refine AB P ?_;exact hb
  refine Aw (a:=a) rfl (B' false _ _) J M5 i (fun O f=>?_);refine AB (CC f) ?_;refine Aw (a:=a) rfl (Bw _ _) J.hit M6 i (fun O f=>?_);refine AB (Dd f) ?_;refine Aw (a:=a) rfl (B' false _ _) J.hit.hit K7 i (fun O f=>?_);refine AB (CC f) ?_;refine Aw (a:=a) rfl (Bw _ _) J.hit.hit.hit HB i (fun O f=>?_);refine AB (Dd f) ?_;refine Aw (a:=a) rfl (B' false _ _) J.hit.hit.hit.hit K8 i (fun O f=>?_);refine AB (CC f) ?_;refine Aw (a:=a) rfl (Bw _ _) J.hit.hit.hit.hit.hit M7 i (fun O f=>?_);refine AB (Dd f) ?_;refine Aw (a:=a) rfl (AV 0 _ _) J.hit.hit.hit.hit.hit.hit JB i (fun O f=>?_);refine Ap (C9 f) fun t a7=>?_;obtain rfl:=a7;refine Aw (a:=a) rfl (AV 0 _ _) J.hit.hit.hit.hit.hit.hit.hit M8 i (fun O f=>?_);refine Ap (C9 f) fun u a0=>?_;obtain rfl:=a0;refine HR ?_;simp only [CB,Qd];generalize H:AX 167 b (Ah (.int 0 t) .none .none false false false (.ref y.heap.objs.size) (.ref g) (.int 0 u) .none)=fin;have V:CE fin:=by refine Ar H ?_;exact AH _ _ _
  refine(Ir y.heap.objs.size t u rfl ?_ ?_ f0 T)
  ·refine AB H ?_;have:=(xz.put a1 (AH _ _ _) V (HQ F.g0 a1 (AH _ _ _))).Bd;rw [CB]at this;exact this
  ·exact((Heap.SameBut.update (FZ j Z).heap a fun _=>fin).2 _ T).trans X
 ·refine DU (hR) fun z t u h1 f h3 h4 h5=>?_;obtain rfl:=(Internal.Out.ret.inj h1);obtain rfl:=r;have fK:w.base.get? z=none:=by
   cases e:w.base.get? z with
   |none=>rfl
   |some o=>refine Ap (G.sub _ _ e) fun o' e'=>?_;injection (h4.symm.trans e')
  have G':GH (w.putL a (AX 167 b (Ah (.int 0 t) .none .none false false false (.ref z) (.ref g) (.int 0 u) .none))) (put s a (AX 167 b (Ah (.int 0 t) .none .none false false false (.ref z) (.ref g) (.int 0 u) .none))).heap:=
   G.put (G.led _ I.a).1 (AH _ _ _) (AH _ _ _) hb Ao fun d h=>h
  exact k z t u s' (f.trans x) (x.wit.get (f.wit.gh G') h3 (BB _ _).nt (BB _ _).d1) h4 h5 fK
end
section
variable {w:Wd} {names:BC} {oc:List Str} {n:Nat} {A:Around} {env:Env} {s₀ s:Shared} {own:Option Str} {pe:PE}
theorem NI {Q:Unit→Shared→Prop} {x y:Str} {C:Pos} {T:Addr} {q l:Value} {p1 p2:PV} (F:Fm w names oc n A env s₀ own s pe) (z:s.heap.get? T=some (AU q l))
  (v:names.lookup x=some .local) (t:names.lookup y=some .local) (u:∀ h,BA h p1 q) (D:∀ h,BA h p2 l)
  (k:∀ s',Fm w names oc n A env s₀ none s' ((pe.set x p1).set y p2)→(∀ b o,¬Af o→(∀ B,o.data≠.cell B)→s.heap.get? b=some o→s'.heap.get? b=some o)→Q () s') :
  wpAny (MD w) A (assign (.Tuple [.Name x px,.Name y py] kk C) env (.ref T)) Q E s:=by
 refine assign_Tuple_tuple F.cx.ok.h (is_tup z) rfl rfl fun h' m=>?_;have r:Step w s { s with heap:=h',toks:=s.toks }:=Step.of_keeps fun b o e=>m b o (Nat.ne_of_lt (Heap.lt_size e)) e;refine assignInOrder_cons (assign_Name (B4 (F.step r) (.inl v) (u _) none (fun Z h=>by injection h) fun p i a Z Z=>?_));refine assignInOrder_cons (assign_Name (B4 i (.inl t) (D _) none (fun Z h=>by injection h) fun j f g Z Z=>?_));exact assignInOrder_nil (k j f fun b o d c e=>g b o d c (a b o d c (m b o (Nat.ne_of_lt (Heap.lt_size e)) e)))
theorem LP {g:List Stmt} {R:Out→Shared→Prop} (i:names.lookup "StopIteration" = some .globalImplicit) (d:R (.exc (.type "StopIteration")) s₀):Gj w names oc n pe (.Raise (some (.Name "StopIteration" np)) none pos::g) R s₀:=
 fun A env k s Q E b hl F k0 o m=>wpAny_execs_cons (owsi_raiseC F.cx.ok.h (BF F.cx NH i ⟨rfl,rfl⟩) fun h' e a=>by
  refine AY (a.there) fun t l z z=>?_;have x:Step w s { s with heap:=h',toks:=s.toks }:=Step.of_keeps a.keeps;refine AF (F.cx.ok.f) fun c y j=>?_;rw [b]at y;obtain rfl:env::k=c:=Ai y;exact m _ s₀ e none _ d (.inl rfl) (j.step x) (F.st.trans x) (C0 (F.st.gone F.g0 a.new) _ _ l rfl rfl rfl (fun z=>rfl) rfl))
end
section
variable {w:Wd} {names:BC} {oc:List Str} {n:Nat} {A:Around} {env:Env} {E:Value→Shared→Prop} {s₀ s:Shared} {pe:PE}
theorem Qe {x:Str} {f:Addr} {o:Obj} {e:List PV} (C:Cx w names n A env s pe) (g:GV x (.ref f)) (d:names.lookup x=some .globalImplicit)
  (c:(K0 w.w.params).lookup f=some o) (a:o.data = .func fd) (b:es.all BK=true) (hl:Lx w names n pe es e)
  (h:∀ vs s₁,Step w s s₁→Bs s₁.heap e vs→wpAny (MD w) A (call (.ref f) vs []) Q E s₁) (hd:autoParam ((x==("__debug__" : Str))=false) B8) :
  wpAny (MD w) A (eval (.Call (.Name x np) es [] pos) env) Q E s:=by
 refine wpAny_Call_ofName (BF C g d ?_ hd);refine callWith_def_kw (o:=o) (fd:=fd) a (Ae b rfl ?_);refine hl A env s pos _ E C fun vs s₁ k y=>AM ⟨(C.step k).gh.kin _ _ c,?_⟩;exact h vs s₁ k y
theorem LQ {x:Str} {z e:Pos} {f:Addr} {R:Array (Option Value)} {o:Obj} {j:List PV} (F:Cx w names n A env s pe) (O:pe x=some (.raw (.ref a))) (I:Aq w a S C R)
  (B:findIn (K0 w.w.params) (.ref C) "__getattribute__" = some (some (.builtin "object.__getattribute__"))) (D:findIn (K0 w.w.params) (.ref C) "__getattr__" = some none) (G:findIn (K0 w.w.params) (.ref C) name=some (some (.ref f))) (P:typeIn (K0 w.w.params) (.ref f)=some (.type "function"))
  (J:(K0 w.w.params).lookup f=some o) (p:o.data = .func fd) (m:es.all BK=true) (hl:Lx w names n pe es j) (t:es.length<28)
  (h:∀ vs s₁,Step w s s₁→Bs s₁.heap j vs→wpAny (MD w) A (call (.ref f) (.ref a::vs) []) Q E s₁) (T:autoParam ((z.endLine==e.line)=true) Dy) (hd:autoParam ((x==("__debug__" : Str))=false) B8) (H:autoParam ((x==("__classdict__" : Str))=false) B8) :
  wpAny (MD w) A (eval (.Call (.Attribute (.Name x np) name z) es [] e) env) Q E s:=by
 have i:attributeBase (.Name x np) name env (eval (.Name x np) env)=eval (.Name x np) env:=rfl;have u:methodCallPos true (.Name x np) env z e=pure e:=by unfold methodCallPos;exact if_pos T
 have b:=CR es env e m;have d:methodCallForm (es.length+([]:List Keyword).length) (backTo e (starEach es env)) (backToKw e (keywordEach [] env))=true:=by
  unfold methodCallForm;have:(backTo e (starEach es env)).all (!·.1)=true:=by
   rw [List.all_eq_true];intro y N;cases hb:y.1 with
   |false=>rfl
   |true=>rw [Bool.eq_false_iff]at b;exact absurd (List.any_eq_true.mpr ⟨y,N,hb⟩) b
  refine AB this ?_;have L:(backToKw e (keywordEach [] env))=[]:=rfl;refine AB L ?_;simp;exact AJ t (Nat.le_add_left 28 2)
 refine AB (arm_eval_Call ..) ?_;refine AB i ?_;refine AD (AA O hd H A env s _ E F fun v s₁ g l=>?_);obtain rfl:=l;refine AD (wpAny_standAt ?_);unfold methodCall;refine AB d ?_;have k:=F.step g;refine AF (I.at (name:=name) k.gh) fun U M K=>?_;refine AD (wpAny_holding (method_fn k.gh.kin M B D G P K ?_));refine AD (wpAny_of_eq u ?_);refine callWith_function (o:=o) (fd:=fd) (Ae (ks:=[]) m rfl ?_);refine hl A env s₁ e _ E k fun vs r c q=>AM ⟨⟨(k.step c).gh.kin _ _ J,p⟩,?_⟩;exact h vs r (g.trans c) q
theorem TK {y f:Addr} {b:Array (Option Value)} {o:Obj} {vs:List Value} (G:GH w s.heap) (I:Aq w a y C b)
  (x:findIn (K0 w.w.params) (.ref C) "__call__" = some (some (.ref f))) (c:typeIn (K0 w.w.params) (.ref f)=some (.type "function")) (g:(K0 w.w.params).lookup f=some o) (k:o.data = .func fd)
  (h:codeAny (MD w) A (.call (.ref f) ⟨.ref a::vs,[]⟩) (DH Q E) s):wpAny (MD w) A (call (.ref a) vs []) Q E s:=by
 refine AF (I.at (name:="") G) fun d e z=>?_;refine wpAny_call (codeAny_of_tree ?_);refine AD (wpAny_load e.at_ ?_);refine AD (AD (e.type.here ((looks_findIn G.kin x).here ?_)));refine AD ((bind_fn G.kin _ c).here ?_);refine AD ?_;refine AD (wpAny_load (G.kin f o g) ?_);refine AB k ?_;refine AM ?_;refine AB (if_pos rfl) ?_;exact AM ⟨rfl,h⟩
theorem Qf {x:Str} {a Z C p:Nat} {G U:Addr} {N K:Array (Option Value)} {m:List PV} (O:Cx w names n A env s pe) (X:pe x=some (.raw (.ref a))) (I:Aq w a Z C N) (S:Be (K0 w.w.params) C name p i)
  (P:(N[i]?).join=some (.ref G)) (Ic:Aq w G J U K) (H:findIn (K0 w.w.params) (.ref C) name=some (some (.ref p)))
  (q:es.all BK=true) (hl:Lx w names n pe es m) (B:es.length<28)
  (h:∀ vs s₁,Step w s s₁→Bs s₁.heap m vs→wpAny (MD w) A (call (.ref G) vs []) Q E s₁) (hp:autoParam ((F.endLine==g.line)=true) Dy) (hd:autoParam ((x==("__debug__" : Str))=false) B8) (R:autoParam ((x==("__classdict__" : Str))=false) B8) :
  wpAny (MD w) A (eval (.Call (.Attribute (.Name x np) name F) es [] g) env) Q E s:=by
 have l:attributeBase (.Name x np) name env (eval (.Name x np) env)=eval (.Name x np) env:=rfl;have D:methodCallPos true (.Name x np) env F g=pure g:=by unfold methodCallPos;exact if_pos hp
 have e:=CR es env g q;have f:methodCallForm (es.length+([]:List Keyword).length) (backTo g (starEach es env)) (backToKw g (keywordEach [] env))=true:=by
  unfold methodCallForm;have:(backTo g (starEach es env)).all (!·.1)=true:=by
   rw [List.all_eq_true];intro y W;cases hb:y.1 with
   |false=>rfl
   |true=>rw [Bool.eq_false_iff]at e;exact absurd (List.any_eq_true.mpr ⟨y,W,hb⟩) e
  refine AB this ?_;have T:(backToKw g (keywordEach [] env))=[]:=rfl;refine AB T ?_;simp;exact AJ B (Nat.le_add_left 28 2)
 refine AB (arm_eval_Call ..) ?_;refine AB l ?_;refine AD (AA X hd R A env s _ E O fun v s₁ c o=>?_);refine AB o ?_;refine AD (wpAny_standAt ?_);unfold methodCall;refine AB f ?_;have k:=O.step c;refine AF (I.at (name:=name) k.gh) fun od V hs=>?_;refine AD (wpAny_holding (method_usual k.gh.kin V S.ga S.gk H (by simp [S.ty]) (Gk k.gh I S P rfl ?_)));refine AD (wpAny_of_eq D ?_);have b:=k.step (Step.Bu s₁);refine AD (wpAny_holding ?_);refine Ae (ks:=[]) q rfl (hl A env _ g _ E b fun vs u d t=>AM (AD (wpAny_standAt ?_)));refine AF (Ic.at (name:="") (b.step d).gh) fun Y L _=>?_;refine AD ?_;refine AD (wpAny_load L.at_ ?_);refine AM ?_;have j:=h vs u ((c.trans (Step.Bu s₁)).trans d) t;refine AB e ?_;exact AD (wpAny_operating (wpAny_mono j (fun r M hr=>AD (wpAny_holding (wpAny_point (AM hr)))) fun _ _ z=>z))
end
theorem TL:GV "_pull" (.ref 119):=BE fun z=>rfl
structure Jx (w:Wd) (gb A9 it l ig ER IT:Addr) (sl:Array (Option Value)) (o:Obj) (items:Array Value) (c:Nat) (t:Tok) (ts:List (Addr×Obj)):Prop where
 g:Aq w gb A9 167 sl
 i:(it,o)∈w.led
 oc:o.cls = .type "list_iterator"
 l:(l,seqObj "list" items c)∈w.led
 ig:Aq w ig ER 310 #[some (.ref IT)]
 IT:(IT,Ex #[.int 0 t])∈w.led
 ts:∀ p∈ts,p∈w.led∧p.2.cls≠.type "list_iterator"∧p.2.cls≠.ref 167
 bg:w.base.get? gb=none
 bi:w.base.get? it=none
noncomputable def ES (sl:Array (Option Value)) (cv ck:Value):Array (Option Value):=AP (AP (AP (AP sl 2 cv) 4 (.bool true)) 1 ck) 3 (.bool true)
section
variable {w:Wd} {n:Nat} {gb A9 it l ig ER IT:Addr} {sl:Array (Option Value)} {o o':Obj} {items:Array Value} {c:Nat} {t:Tok} {ts:List (Addr×Obj)} {h:Heap}
theorem DJ {b:Addr} {k e:Obj} (G:GH w h) (g:(a,k)∈w.led) (y:(b,e)∈w.led) (x:k.cls≠e.cls):a≠b:=BY (G.led _ g).1 (G.led _ y).1 x
theorem Jx.HD (K:Jx w gb A9 it l ig ER IT sl o items c t ts) (G:GH w h) (k:o'.cls = .type "list_iterator"):Jx (w.putL it o') gb A9 it l ig ER IT sl o' items c t ts:=
 ⟨K.g.miss (DJ G K.g.a K.i (by refine AB K.oc ?_;simp)),H6 K.i,k,Bx K.l (DJ G K.l K.i (by refine AB K.oc ?_;exact not_eq_of_beq_eq_false rfl)),K.ig.miss (DJ G K.ig.a K.i (by refine AB K.oc ?_;simp)),Bx K.IT (DJ G K.IT K.i (by refine AB K.oc ?_;exact not_eq_of_beq_eq_false rfl)),
  fun p e=>CK (K.ts p e) fun a b c=>⟨Bx a (DJ G a K.i (by refine AB K.oc ?_;exact b)),b,c⟩,K.bg,K.bi⟩
theorem Jx.U2 (K:Jx w gb A9 it l ig ER IT sl o items c t ts) (G:GH w h) (sl':Array (Option Value)):Jx (w.putL gb (AX 167 A9 sl')) gb A9 it l ig ER IT sl' o items c t ts:=
 ⟨K.g.hit,Bx K.i (DJ G K.i K.g.a (by refine AB K.oc ?_;simp)),K.oc,Bx K.l (DJ G K.l K.g.a (by simp)),K.ig.miss (DJ G K.ig.a K.g.a (by simp)),Bx K.IT (DJ G K.IT K.g.a (by simp)),
  fun p k=>CK (K.ts p k) fun a b c=>⟨Bx a (DJ G a K.g.a c),b,c⟩,K.bg,K.bi⟩
theorem IZ {l:Expr} (hl:Ev w names n pe l (.raw v)):Tr w names n pe (.Compare l [.Is] [.Constant .none kk np] pos) (v == .none):=
 fun A env s Q E C h=>wpAny_isTrue_Compare1 (hl A env s _ E C fun x s₁ k e=>by refine AB e ?_;exact wpAny_Constant_none (is_none (wpAny_truthy_bool (h _ k)))) (by with_unfolding_all rfl)
theorem YB {b T k:Addr} {x y:Value} {t:Tok} (I:Aq w a b 310 #[some (.ref k)]) (e:(k,Ex #[.int 0 t])∈w.led) (g:(T,AU x y)∈w.led) :
  Bo w (Iy (fdOf Ik)) (Ct (fdOf Ik).scope.names) n none (PE.sets (fun z=>none) [("self",.raw (.ref a)),("obj",.raw (.ref T))]) (Ag (BQ 15 3)) (.ret (.raw x)):=by
 refine AN C6 ?_;refine AN (AL (pv:=.raw (.ref k)) (A8 (a:=a) rfl I Uv rfl) (.inl rfl)) ?_;refine Er (An (BU (TH rfl rfl e (Array.none_eq_getElem?_iff.mp rfl)) (AV _ _ _) Cv) rfl) ?_;exact CA (LN (i:=0) rfl g (BI (f:=.int 0) (LN (i:=0) (v:=.int 0 t) rfl e (AV _ _ _) rfl (Nat.zero_lt_succ 999)) ⟨_,rfl⟩) rfl (Nat.zero_lt_succ 999))
theorem TM {m T i:Addr} {x y:Value} {t:Tok} (G:GH w s.heap) (d:BS w (n+1) A s) (I:Aq w a m 310 #[some (.ref i)]) (q:(i,Ex #[.int 0 t])∈w.led) (f:(T,AU x y)∈w.led)
  (k:∀ s',Step w s s'→Q x s') :
  codeAny (MD w) A (.call (.ref 292) ⟨[.ref a,.ref T],[]⟩) (DH Q E) s:=by
 refine CF (n:=n) (o:=Ik) (fd:=fdOf Ik) (body:=Ag (BQ 15 3)) (bs:=[("self",.raw (.ref a)),("obj",.raw (.ref T))]) (binds:=[("self",.ref a),("obj",.ref T)])
  (R:=fun out sg=>out = .ret (.raw x)∧sg=s) G d rfl rfl rfl (fun S=>rfl) (fun h G=>codeRec_of G.kin (by kernel_rfl)) rfl rfl (B2 rfl rfl trivial) (fun p u=>?_) (Vz (YB I q f s) ⟨rfl,rfl⟩) (fun cls sg g=>by refine Bt (g) fun h l=>?_;injection h) (fun pv sg v s' zq x r=>?_) (fun cls sg e s' b=>by refine Bt (b) fun h l=>?_;injection h) rfl rfl rfl rfl rfl rfl
 ·exact locs (by rfl) p u
 ·refine Bt zq fun j z=>?_;obtain rfl:=(Internal.Out.ret.inj j);clear j f;obtain rfl:=r;clear d G;subst z;exact k s' x
theorem V4 {x y:Str} {D j m:Pos} {T:Addr} {p q:Value} (K:Jx w gb A9 it l ig ER IT sl o items c t ts) (B:pe x=some (.raw (.ref gb))) (u:(sl[7]?).join=some (.ref ig)) (z:pe y=some (.raw (.ref T))) (G:(T,AU p q)∈w.led)
  (H:autoParam ((j.endLine==m.line)=true) Dy) (hd:autoParam ((x==("__debug__" : Str))=false) Dy) (F:autoParam ((x==("__classdict__" : Str))=false) Dy) (i:autoParam ((y==("__debug__" : Str))=false) Dy) (d:autoParam ((y==("__classdict__" : Str))=false) Dy) :
  Ev w names (n+1) pe (.Call (.Attribute (.Name x np) "_keyfunc" j) [.Name y D] [] m) (.raw p):=fun A env s Q E C k=>
 Qf C B K.g QG u K.ig (by kernel_rfl) rfl (AE (AA z i d) AK) (Nat.lt_of_sub_eq_succ rfl) (fun vs s₁ e a=>by
  refine AF (BP a) fun v b r=>?_;clear a;obtain rfl:=b;obtain rfl:=r;exact TK (C.step e).gh K.ig (f:=292) (o:=Ik) (by kernel_rfl) (by kernel_rfl) rfl rfl (TM (C.step e).gh (C.step e).ok K.ig K.IT G fun s' I=>k _ _ (e.trans I) rfl)) H hd F
noncomputable def Qg (w:Wd) (gb A9 it:Addr) (sl:Array (Option Value)) (o':Obj) (ts:List (Addr×Obj)) (r:JG) (s:Shared) (out:Out) (sg:Shared):Prop:=
 (∃ T k u y,r = .item (.ref T)∧(T,AU (.int k u) y)∈ts∧out = .ret (.fv .none)∧sg=put (put s it o') gb (AX 167 A9 (ES sl (.ref T) (.int k u))))∨
 (r = .stop∧out = .exc (.type "StopIteration")∧sg=put s it o')
theorem DG {r:JG} (h:Fj o items l r o'):o'.cls = .type "list_iterator":=by
 induction r with
 |item x=>refine XA (h) fun i z e=>?_;refine AB e ?_;rfl
 |stop=>refine AF (h) fun i k h=>?_;obtain rfl:=k;rfl
set_option maxHeartbeats 2000000 in
theorem H' {r:JG} (G:GH w s.heap) (ok:BS w (n+3) A s) (K:Jx w gb A9 it l ig ER IT sl o items c t ts) (hr:Fj o items l r o')
  (h6:(sl[6]?).join=some (.ref it)) (h7:(sl[7]?).join=some (.ref ig)) (hit:∀ x,r = .item x→∃ T k u y,x = .ref T∧(T,AU (.int k u) y)∈ts)
  (k1:∀ T k u y s',r = .item (.ref T)→(T,AU (.int k u) y)∈ts→Step w (put (put s it o') gb (AX 167 A9 (ES sl (.ref T) (.int k u)))) s'→Q .none s')
  (k2:∀ e s',r = .stop→Step w (put s it o') s'→Ep (put s it o').heap s'.heap (.type "StopIteration") e (some none)→E (.ref e) s') :
  codeAny (MD w) A (.call (.ref 156) ⟨[.ref gb],[]⟩) (DH Q E) s:=by
 refine Bt (De hr) fun m m'=>?_;refine CF (n:=n+2) (o:=KW) (fd:=fdOf KW) (body:=Ag (BQ 10 3)) (bs:=[("self",.raw (.ref gb))]) (binds:=[("self",.ref gb)])
  (R:=Qg w gb A9 it sl o' ts r s)
  G ok rfl rfl rfl (fun S=>rfl) (fun h G=>codeRec_of G.kin (by kernel_rfl)) rfl rfl ⟨rfl,trivial⟩ (fun p hp=>?_) ?_ (fun cls sg W=>?_) (fun pv sg v s' W x q=>?_) (fun cls sg e s' W x X=>?_) rfl rfl rfl rfl rfl rfl
 ·refine AB (List.mem_singleton.mp hp) ?_;exact .inl rfl
 ·intro A env outer s₁ Q E hf hl F k0 k1 k2;refine wpAny_execs_cons (Assign_Tuple ?_);refine Qe (o:=G1) F.cx TL rfl rfl rfl rfl (AE (A8 (a:=gb) rfl K.g Ut h6) AK) fun vs CN a1 N=>?_;refine AF (BP N) fun v Y r1=>?_;clear N;obtain rfl:=Y;obtain rfl:=r1;have C:=F.step a1;refine wpAny_call (OZ (n:=n+1) C.cx.gh C.cx.ok K.i K.l hr K.bi fun T L8 a2 I fL=>?_);have M:=(C.put (L:=CJ w.led it o') (D:=w.Bm) (G.led _ K.i).1 m m' K.bi Ao (fun d h=>h)).step a2.wit;have H:=K.HD G (DG hr)
  induction r with
  |item x=>
   refine Ft (hit x rfl) fun T' k u y Z a0=>?_;clear hr;obtain rfl:=Z;refine NI (w:=w.putL it o') (p1:=.fv (.bool true)) (p2:=.raw (.ref T')) M I rfl rfl (fun _=>rfl) (fun _=>rfl) fun a3 b _=>?_;refine C8 (R:=Qg w gb A9 it sl o' ts (.item (.ref T')) s) (w:=w) (w':=w.putL it o') rfl rfl ?_ hf hl b k0 k1 k2;refine Dq (An (Bn (Az (f:=.bool true) (AA rfl))) rfl) ?_;have J:=H.g;refine Dq (An (IZ (v:=.ref ig) (A8 (a:=gb) rfl J QG h7)) rfl) ?_;refine Ca (AL (pv:=.raw (.int k u)) (V4 (n:=n+1) H rfl h7 rfl (H.ts _ a0).1) (.inl rfl)) ?_;refine Aw (a:=gb) rfl (AA (pv:=.raw (.ref T')) rfl) J M7 K.bg (fun v2 j=>?_);refine AB (Cj j) ?_;refine Aw (a:=gb) rfl (B' true _ _) J.hit K8 K.bg (fun v2 j=>?_);refine AB (CC j) ?_;refine Aw (a:=gb) rfl (AA (pv:=.raw (.int k u)) rfl) J.hit.hit HB K.bg (fun v2 j=>?_);refine AB (Cj j) ?_;refine Aw (a:=gb) rfl (B' true _ _) J.hit.hit.hit K7 K.bg (fun v2 j=>?_);refine AB (CC j) ?_;refine HR ?_;simp only [CB];exact .inl (Ba T' k u y rfl a0 rfl rfl)
  |stop=>
   refine NI (w:=w.putL it o') (p1:=.fv (.bool false)) (p2:=.fv .none) M I rfl rfl (fun _=>rfl) (fun _=>rfl) fun a3 b _=>?_;refine C8 (R:=Qg w gb A9 it sl o' ts .stop s) (w:=w) (w':=w.putL it o') rfl rfl ?_ hf hl b k0 k1 k2;refine HS (An (Bn (Az (f:=.bool false) (AA rfl))) rfl) ?_;exact LP rfl (.inr (B2 rfl rfl rfl))
 ·refine Or.elim W (fun V=>?_) (fun O=>?_)
  ·refine Ax (V) fun _ _ _ _ _ _ h _=>?_;injection h
  ·refine Zs (O) fun _ _=>?_;exact(DB _ _ (G.put (G.led _ K.i).1 m m' K.bi Ao fun d h=>h))
 ·refine Or.elim W (fun B=>?_) (fun U=>?_)
  ·refine Ax (B) fun T k u y h1 j h3 a4=>?_;clear B;obtain rfl:=a4;obtain rfl:=(Internal.Out.ret.inj h3);obtain rfl:=q;exact k1 T k u y s' h1 j x
  ·refine CK (U) fun _ h _=>?_;injection h
 ·refine Or.elim W (fun P=>?_) (fun z=>?_)
  ·refine Ax (P) fun _ _ _ _ _ _ h _=>?_;injection h
  ·refine CK (z) fun h1 j a5=>?_;clear W z;obtain rfl:=a5;obtain rfl:=(Internal.Out.exc.inj j);exact k2 e s' h1 x X
end
theorem TN:GV "_same" (.ref 126):=BE fun z=>rfl
theorem Fl (y i f:Value) (d g x:Bool) (e kf k tk a b:Value):ES (Ah y i f d g x e kf k tk) a b=Ah y b a true true x e kf k tk:=by kernel_rfl
theorem LR (y d b:Value) (a g x:Bool) (e kf k tk:Value):AP (AP (AP (AP (Ah y d b a g x e kf k tk) 2 .none) 4 (.bool false)) 1 .none) 3 (.bool false)=Ah y .none .none false false x e kf k tk:=by kernel_rfl
noncomputable def CV (m:Value) (gb:Addr) (k:Value):Array (Option Value):=#[some m,some (.ref gb),some k]
section
variable {w:Wd} {n:Nat} {gb A9 it l ig ER IT gr Fn:Addr} {o o':Obj} {items:Array Value} {c:Nat} {t:Tok} {ts:List (Addr×Obj)} {h:Heap} {names:BC} {oc:List Str} {pe:PE} {R:Out→Shared→Prop} {s₀:Shared}
theorem IB {x y B A:Str} {M N:Pos} {a H z b L q q1 v J s:Nat} {p m:Array (Option Value)} {g:Int} {d:Tok} (Q:names.lookup "_same" = some .globalImplicit) (G:pe x=some (.raw (.ref a))) (F:pe y=some (.raw (.ref b))) (P:Aq w a H z p) (O:Aq w b L q m)
  (E:Be (K0 w.w.params) z B q1 v) (D:Be (K0 w.w.params) q A J s) (K:(p[v]?).join=some (.int k u)) (I:(m[s]?).join=some (.int g d)) (S:u≠0) (f:d≠0) (e:u=d→k=g)
  (hd:autoParam ((x==("__debug__" : Str))=false) Dy) (C:autoParam ((x==("__classdict__" : Str))=false) Dy) (j:autoParam ((y==("__debug__" : Str))=false) Dy) (i:autoParam ((y==("__classdict__" : Str))=false) Dy) :
  Ev w names (n+1) pe (.Call (.Name "_same" np) [.Attribute (.Name x p1) B p2,.Attribute (.Name y M) A N] [] pos) (.fv (.bool (k==g))):=
 Hm (o:=Mg) TN Q rfl rfl rfl (nm:=[]) rfl (AE (A8 (a:=a) G P E K rfl hd C) (AE (A8 (a:=b) F O D I rfl j i) AK)) Ad (TC S f e).r
theorem JH {C D:Value} {T:Addr} {b:Int} {r:Tok} {m:Value} {z s f:Bool} {d j:Value} (K:Jx w gb A9 it l ig ER IT (Ah C (.int k u) (.ref T) z s f d j D tk) o items c t ts) (I:Aq w gr Fn 212 (CV m gb (.int b r)))
  (p:pe "self" = some (.raw (.ref gr))) (e:pe "gbo" = some (.raw (.ref gb))) (E:u≠0) (i:r≠0) (y:r=u→b=k)
  (A:b=k→R (.ret (.raw (.ref T))) (put s₀ gb (AX 167 A9 (Ah C .none .none false false f d j D tk)))) (v:b≠k→R (.exc (.type "StopIteration")) s₀) :
  Gj w (Iy (fdOf Ij)) oc (n+1) pe ((Ag (BQ 11 3)).drop 3) R s₀:=by
 by_cases q:b=k
 ·refine Dq (An (Bn (Az (IB rfl p e I K.g QJ HB rfl rfl i E y))) (by simp [Ce,q])) ?_;refine Ca (AL (pv:=.raw (.ref T)) (A8 (a:=gb) e K.g M7 rfl) (.inl rfl)) ?_;refine Aw (a:=gb) e (Bw _ _) K.g M7 K.bg (fun B x=>?_);refine AB (Dd x) ?_;refine Aw (a:=gb) e (B' false _ _) K.g.hit K8 K.bg (fun B x=>?_);refine AB (CC x) ?_;refine Aw (a:=gb) e (Bw _ _) K.g.hit.hit HB K.bg (fun B x=>?_);refine AB (Dd x) ?_;refine Aw (a:=gb) e (B' false _ _) K.g.hit.hit.hit K7 K.bg (fun B x=>?_);refine AB (CC x) ?_;refine Jt (pv:=.raw (.ref T)) (AA rfl) ?_;simp only [CB,LR];exact A q
 ·refine HS (An (Bn (Az (IB rfl p e I K.g QJ HB rfl rfl i E y))) (by simp [Ce,q])) ?_;exact LP rfl (v q)
theorem Qh {y:Int} {B N:Tok} {r:Value} {T:Addr} {F:Tok} {D i:Bool} {d j:Value} (G:GH w s.heap) (J:BS w (n+2) A s)
  (K:Jx w gb A9 it l ig ER IT (Ah (.int y B) (.int k u) (.ref T) D true i d j r tk) o items c t ts) (I:Aq w gr Fn 212 (CV (.int y N) gb (.int k F))) (P:u≠0) (C:F≠0)
  (H:∀ s',Step w (put s gb (AX 167 A9 (Ah (.int y B) .none .none false false i d j r tk))) s'→Q (.ref T) s') :
  codeAny (MD w) A (.call (.ref 208) ⟨[.ref gr],[]⟩) (DH Q E) s:=by
 refine CF (n:=n+1) (o:=Ij) (fd:=fdOf Ij) (body:=Ag (BQ 11 3)) (bs:=[("self",.raw (.ref gr))]) (binds:=[("self",.ref gr)])
  (R:=fun out sg=>out = .ret (.raw (.ref T))∧sg=put s gb (AX 167 A9 (Ah (.int y B) .none .none false false i d j r tk)))
  G J rfl rfl rfl (fun S=>rfl) (fun h G=>codeRec_of G.kin (by kernel_rfl)) rfl rfl ⟨rfl,trivial⟩ (fun p L=>?_) ?_ (fun cls sg z=>by refine Bt (z) fun h Z=>?_;injection h) (fun pv sg v s' zq x q=>?_) (fun cls sg e s' m=>by refine Bt (m) fun h Z=>?_;injection h) rfl rfl rfl rfl rfl rfl
 ·refine AB (List.mem_singleton.mp L) ?_;exact .inl rfl
 ·refine Ca (AL (pv:=.raw (.ref gb)) (A8 (a:=gr) rfl I QI rfl) (.inl rfl)) ?_;refine Dq (An (BU (a:=.int y) (b:=.int y) (BI (A8 (a:=gb) rfl K.g JB rfl) ⟨_,rfl⟩) (BI (A8 (a:=gr) rfl I QH rfl) ⟨_,rfl⟩) Hj) (bne_self_eq_false' y)) ?_;refine Dq (An (Bn (Az (f:=.bool true) (BI (A8 (a:=gb) rfl K.g K8 rfl) rfl))) rfl) ?_;exact JH K I rfl rfl P C (fun Z=>rfl) (fun Z=>⟨rfl,rfl⟩) (fun h=>absurd rfl h)
 ·refine Bt zq fun M O=>?_;obtain rfl:=(Internal.Out.ret.inj M);obtain rfl:=q;subst O;exact H s' x
noncomputable def af (gb A9 it:Addr) (cn:Int) (ct:Tok) (se tk:Value) (dH:Bool) (dJ dK:Value) (k:Int) (o':Obj) (ts:List (Addr×Obj)) (r:JG) (s:Shared) (out:Out) (sg:Shared):Prop:=
 (∃ T u y,r = .item (.ref T)∧(T,AU (.int k u) y)∈ts∧out = .ret (.raw (.ref T))∧sg=put (put s it o') gb (AX 167 A9 (Ah (.int cn ct) .none .none false false dH dJ dK se tk)))∨
 (∃ T k' u y,k'≠k∧r = .item (.ref T)∧(T,AU (.int k' u) y)∈ts∧out = .exc (.type "StopIteration")∧sg=put (put s it o') gb (AX 167 A9 (Ah (.int cn ct) (.int k' u) (.ref T) true true dH dJ dK se tk)))∨
 (r = .stop∧out = .exc (.type "StopIteration")∧sg=put s it o')
set_option maxHeartbeats 2000000 in
theorem LS {r:JG} {H:Int} {W mt:Tok} {V:Value} {ck cv:Value} {u':Tok} {U z:Bool} (G:GH w s.heap) (ok:BS w (n+4) A s)
  (K:Jx w gb A9 it l ig ER IT (Ah (.int H W) ck cv U false z (.ref it) (.ref ig) V tk) o items c t ts) (I:Aq w gr Fn 212 (CV (.int H mt) gb (.int k u'))) (fM:(gr,AX 212 Fn (CV (.int H mt) gb (.int k u')))∈ts) (fN:u'≠0) (hr:Fj o items l r o')
  (hit:∀ x,r = .item x→∃ T k u y,x = .ref T∧(T,AU (.int k u) y)∈ts) (S9:∀ T j u y,(T,AU (.int j u) y)∈ts→u≠0∧(u'=u→k=j))
  (k1:∀ T u y s',r = .item (.ref T)→(T,AU (.int k u) y)∈ts→Step w (put (put s it o') gb (AX 167 A9 (Ah (.int H W) .none .none false false z (.ref it) (.ref ig) V tk))) s'→Q (.ref T) s')
  (k2:∀ T k' u y e s',k'≠k→r = .item (.ref T)→(T,AU (.int k' u) y)∈ts→Step w (put (put s it o') gb (AX 167 A9 (Ah (.int H W) (.int k' u) (.ref T) true true z (.ref it) (.ref ig) V tk))) s'→
   Ep (put (put s it o') gb (AX 167 A9 (Ah (.int H W) (.int k' u) (.ref T) true true z (.ref it) (.ref ig) V tk))).heap s'.heap (.type "StopIteration") e (some none)→E (.ref e) s')
  (k3:∀ e s',r = .stop→Step w (put s it o') s'→Ep (put s it o').heap s'.heap (.type "StopIteration") e (some none)→E (.ref e) s') :
  codeAny (MD w) A (.call (.ref 208) ⟨[.ref gr],[]⟩) (DH Q E) s:=by
 refine Bt (De hr) fun m m'=>?_;have G':GH (w.putL it o') (put s it o').heap:=G.put (G.led _ K.i).1 m m' K.bi Ao fun d h=>h;have K':=K.HD G (DG hr);refine CF (n:=n+3) (o:=Ij) (fd:=fdOf Ij) (body:=Ag (BQ 11 3)) (bs:=[("self",.raw (.ref gr))]) (binds:=[("self",.ref gr)])
  (R:=af gb A9 it H W V tk z (.ref it) (.ref ig) k o' ts r s)
  G ok rfl rfl rfl (fun S=>rfl) (fun h G=>codeRec_of G.kin (by kernel_rfl)) rfl rfl ⟨rfl,trivial⟩ (fun p hp=>?_) ?_ (fun cls sg hR=>?_) (fun pv sg v s' hR x q=>?_) (fun cls sg e s' hR x X=>?_) rfl rfl rfl rfl rfl rfl
 ·refine AB (List.mem_singleton.mp hp) ?_;exact .inl rfl
 ·refine Ca (AL (pv:=.raw (.ref gb)) (A8 (a:=gr) rfl I QI rfl) (.inl rfl)) ?_;refine Dq (An (BU (a:=.int H) (b:=.int H) (BI (A8 (a:=gb) rfl K.g JB rfl) ⟨_,rfl⟩) (BI (A8 (a:=gr) rfl I QH rfl) ⟨_,rfl⟩) Hj) (bne_self_eq_false' H)) ?_;refine HS (An (Bn (Az (f:=.bool false) (BI (A8 (a:=gb) rfl K.g K8 rfl) rfl))) rfl) ?_;intro A env P s₁ Q E hf hl F k0 k1 k2;have fk:∀ {w':Wd} {M B:Shared},w'.base=w.base→BS w' (n+3) A M→Step w' M B→CT w.base B.heap (env::P):=fun {w' M B} hb ok x=>by
   refine AF (ok.f) fun fl ah fk=>?_;replace ah:=hf▸ah;obtain rfl:env::P=fl:=Ai ah;have:=fk.step x;rw [hb]at this;exact this
  refine wpAny_execs_cons (wpAny_Expr ?_ F.cx.eo.quiet);refine LQ (o:=KW) F.cx rfl K.g (f:=156) (by kernel_rfl) (by kernel_rfl) (by kernel_rfl) (by kernel_rfl) rfl rfl rfl AK (Nat.lt_of_sub_eq_succ rfl) fun vs M ai aj=>?_;refine AB (A6 aj) ?_;have Y:=F.step ai;have C:=Y.put (L:=CJ w.led it o') (D:=w.Bm) (G.led _ K.i).1 m m' K.bi Ao (fun d h=>h);refine wpAny_call (H' (n:=n) Y.cx.gh Y.cx.ok K hr rfl rfl hit (fun T j u y B h1 Z J=>?_) (fun e B h1 J ak=>?_))
  ·have ao:=(C.put (L:=CJ (w.putL it o').led gb (AX 167 A9 (ES (Ah (.int H W) ck cv U false z (.ref it) (.ref ig) V tk) (.ref T) (.int j u)))) (D:=w.Bm) (G'.led _ K'.g.a).1 (AH _ _ _) (AH _ _ (ES (Ah (.int H W) ck cv U false z (.ref it) (.ref ig) V tk) (.ref T) (.int j u))) K.bg Ao (fun d h=>h)).step J.wit;have N:=K'.U2 G' (ES (Ah (.int H W) ck cv U false z (.ref it) (.ref ig) V tk) (.ref T) (.int j u));have O:=N.ts _ fM;refine C8 (R:=af gb A9 it H W V tk z (.ref it) (.ref ig) k o' ts r s) (w:=w) (w':=(w.putL it o').putL gb (AX 167 A9 (ES (Ah (.int H W) ck cv U false z (.ref it) (.ref ig) V tk) (.ref T) (.int j u)))) rfl rfl ?_ hf hl ao k0 k1 k2;rw [Fl]at N ⊢;refine JH (R:=af gb A9 it H W V tk z (.ref it) (.ref ig) k o' ts r s) N (⟨by replace O:=(Fl ..)▸O;exact O.1,I.d⟩) rfl rfl (S9 _ _ _ _ Z).1 fN (S9 _ _ _ _ Z).2 ?_ ?_
   ·intro hk;refine AB hk ?_;refine AB CB ?_;exact .inl (CY T u y h1 Z rfl rfl)
   ·intro hk;exact .inr (.inl ⟨T,j,u,y,(fun q=>hk q.symm),h1,Z,rfl,rfl⟩)
  ·clear k0 hr hit;subst h1;exact k2 _ (put s it o') e (some none) B (.inr (.inr (B2 rfl rfl rfl))) (.inr (.inl rfl)) (fk (w':=w.putL it o') rfl C.cx.ok J.wit) (C.st.Bd.trans J) (ak.old fun a h=>C.st.gone C.g0 h)
 ·rcases hR with ⟨_,_,_,_,_,h,_⟩ | ⟨T,j,u,y,_,_,_,_,rfl⟩ | ⟨_,_,rfl⟩
  ·injection h
  ·exact(DB _ _ ((fun sl'=>G'.put (G'.led _ K'.g.a).1 (AH _ _ _) (AH _ _ _) K.bg Ao fun d h=>h) _))
  ·exact(DB _ _ G')
 ·rcases hR with ⟨T,u,y,h1,Z,h3,rfl⟩ | ⟨_,_,_,_,_,_,_,h,_⟩ | ⟨_,h,_⟩
  ·obtain rfl:=(Internal.Out.ret.inj h3);obtain rfl:=q;exact k1 T u y s' h1 Z x
  ·injection h
  ·injection h
 ·rcases hR with ⟨_,_,_,_,_,h,_⟩ | ⟨T,j,u,y,h0,h1,Z,h3,rfl⟩ | ⟨h1,Z,rfl⟩
  ·injection h
  ·obtain rfl:=(Internal.Out.exc.inj h3);exact k2 T j u y e s' h0 h1 Z x X
  ·obtain rfl:=(Internal.Out.exc.inj Z);exact k3 e s' h1 x X
end
section
variable {w:Wd} {A:Around} {E:Value→Shared→Prop} {s:Shared}
theorem Ez {o:Obj} (x:s.heap.get? a=some o) (k:o.cls = .ref C) (y:Q (.ref C) s):wpAny (MD w) A (call (.type "type") [.ref a]) Q E s:=by
 obtain⟨h,g,d,tk,os⟩:=s;refine wpAny_call (codeAny_of_tree ?_);refine AM ⟨Code.quiet_builtin _ (by decide +kernel),codeAny_builtin F.entry_type_call ?_⟩;refine AB (Around.under_plain (weight_type_call_type "type" [.ref a] []) (units_type_call_type "type" [.ref a] [])) ?_;refine AD ?_;have e:Looks (MD w) h (typeOf (.ref a)) (.ref C):=by
  have:Looks (MD w) h (typeOf (.ref a)) o.cls:=(Looks.ld x).andThen .now;rwa [k]at this
 refine AD (e.here (s:=⟨h,g,d,tk,os⟩) ?_);refine AB (if_neg (show ¬((Value.ref C==Value.type "builtin_function_or_method")=true)from Bool.false_ne_true)) ?_;exact AM (AM y)
theorem U3:GV "groupby" (.ref 167):=BE fun z=>rfl
variable {names:BC} {oc:List Str} {n:Nat} {pe:PE} {a dx C:Addr} {sl:Array (Option Value)} {R:Out→Shared→Prop} {s₀:Shared}
theorem Qi (I:Aq w a dx C sl):Hl w n (.type "type") [.raw (.ref a)] [] [] (.raw (.ref C)):=fun A s Q E vs ks G y r x k=>by
 refine AF (BP r) fun v h e=>?_;clear r;obtain rfl:=h;obtain rfl:=A6 x;obtain rfl:=e;exact Ez (G.led _ I.a).1 rfl (k _ _ (Step.refl w s) rfl)
theorem TP {x:Str} {d gp f:Pos} (c:names.lookup "type" = some .globalImplicit) (e:names.lookup "groupby" = some .globalImplicit) (g:pe x=some (.raw (.ref a))) (I:Aq w a dx 167 sl)
  (hd:autoParam ((x==("__debug__" : Str))=false) Dy) (b:autoParam ((x==("__classdict__" : Str))=false) Dy) :
  Tr w names n pe (.Compare (.Call (.Name "type" np) [.Name x d] [] f) [.IsNot] [.Name "groupby" gp] pos) false:=fun A env s Q E C k=>
 wpAny_isTrue_Compare1 (Eo GF c (nm:=[]) rfl rfl (AE (AA g hd b) AK) Ad (Qi I) (by rfl) A env s _ E C fun i s₁ h y=>BF (C.step h) U3 e (by
  refine AB y ?_;exact wpAny_isNot_ref_self (wpAny_truthy_bool (k s₁ h)))) (by with_unfolding_all rfl)
theorem TQ {p:Nat} {x:Str} {M:Pos} {j:Int} {l:List Stmt} (O:pe x=some (.raw (.ref a))) (K:Ev w names n pe e (.fv (.int k))) (I:Aq w a dx C sl) (S:Be (K0 w.w.params) C name p i) (G:(sl[i]?).join=some (.int j t)) (P:w.base.get? a=none)
  (T:∀ u,Gj (w.putL a (AX C dx (AP sl i (.int (j+k) u)))) names oc n pe l R (put s₀ a (AX C dx (AP sl i (.int (j+k) u))))) (V:autoParam (i<1000) B8)
  (hd:autoParam ((x==("__debug__" : Str))=false) B8) (J:autoParam ((x==("__classdict__" : Str))=false) B8):Gj w names oc n pe (.AugAssign (.Attribute (.Name x np) name M) .Add e pos::l) R s₀:=
 fun A env B s Q E H hl F k0 U W=>wpAny_execs_cons (wpAny_AugAssign_AttributeAny (AA O hd J A env s _ E F.cx fun u s₁ o m=>by
  obtain rfl:=m;have b:=F.step o;refine Gk b.cx.gh I S G rfl ?_;have f:=b.step (Step.Bu s₁);refine K A env _ _ E f.cx fun v y r c=>?_;refine Ap (c) fun u q=>?_;clear c;obtain rfl:=q;refine AutoIntOps.iadd_0 ?_;have g:=(f.step r).step (Step.Bu y);refine FH g.cx.gh I S V ?_;refine CK (F.g0.led _ I.a) fun N Z Z=>?_;have z:=(g.put (L:=CJ w.led a (AX C dx (AP sl i (.int (j+k) y.toks)))) (D:=w.Bm) N (AH C dx sl) (AH C dx (AP sl i (.int (j+k) y.toks))) P Ao (fun d h=>h)).step (s':={ put { y with toks:=y.toks+1 } a (AX C dx (AP sl i (.int (j+k) y.toks)))with toks:=y.toks+1+1 }) (Step.Bu _);exact C8 (w:=w) (w':=w.putL a (AX C dx (AP sl i (.int (j+k) y.toks)))) rfl rfl (T _) H hl z k0 U W))
end
theorem GJ {b:Addr} {o:Obj} (h:a≠b):put (put s a o) b o'=put (put s b o') a o:=by
 obtain⟨⟨objs,l⟩,g,d,t,os⟩:=s;show({ heap:=⟨(objs.modify a fun z=>o).modify b fun z=>o',l⟩,gens:=g,drawn:=d,toks:=t,os:=os } : Shared)={ heap:=⟨(objs.modify b fun z=>o').modify a fun z=>o,l⟩,gens:=g,drawn:=d,toks:=t,os:=os }
 congr 2
 apply Array.ext_getElem?;intro i;rw [Array.getElem?_modify,Array.getElem?_modify,Array.getElem?_modify,Array.getElem?_modify]
 by_cases k:a=i
 ·subst k;simp [Ne.symm h]
 ·by_cases e:b=i
  ·subst e;simp [k]
  ·simp [k,e]
theorem Qj (h:Addr) (m k:Value):AP (AP (AP #[] 1 (.ref h)) 2 k) 0 m=CV m h k:=by kernel_rfl
theorem Qk (c y x:Value) (k h g:Bool) (e kf b tk m:Value):AP (AP (Ah c y x k h g e kf b tk) 8 m) 0 m=Ah m y x k h g e kf m tk:=by kernel_rfl
set_option maxHeartbeats 1000000 in
theorem LU {y f:Addr} {U N H J kf i:Value} {F D K:Bool} {d:Int} {O:Tok} (G:GH w s.heap) (W:BS w (n+1) A s)
  (M:Aq w y f 167 (Ah U N H F D K J kf (.int d O) tk)) (I:Aq w a z 212 #[]) (L:w.base.get? a=none) (r:w.base.get? y=none)
  (k:∀ m s',Step w (put (put s a (AX 212 z (CV (.int (d+1) m) y i))) y (AX 167 f (Ah (.int (d+1) m) N H F D K J kf (.int (d+1) m) tk))) s'→Q .none s') :
  codeAny (MD w) A (.call (.ref 194) ⟨[.ref a,.ref y,i],[]⟩) (DH Q E) s:=by
 have g:a≠y:=DJ G I.a M.a (by simp);refine CF (n:=n) (o:=O') (fd:=fdOf O') (body:=Ag (BQ 11 1)) (bs:=[("self",.raw (.ref a)),("parent",.raw (.ref y)),("tgtkey",.raw i)]) (binds:=[("self",.ref a),("parent",.ref y),("tgtkey",i)])
  (R:=fun out sg=>∃ m,out = .ret (.fv .none)∧sg=put (put s a (AX 212 z (CV (.int (d+1) m) y i))) y (AX 167 f (Ah (.int (d+1) m) N H F D K J kf (.int (d+1) m) tk)))
  G W rfl rfl rfl (fun S=>rfl) (fun h G=>codeRec_of G.kin (by kernel_rfl)) rfl rfl (EX rfl rfl rfl trivial) (fun p Y=>?_) ?_ (fun cls sg B=>by refine AF (B) fun C h C=>?_;injection h) (fun pv sg v s' zq x q=>?_) (fun cls sg e s' u=>by refine AF (u) fun C h C=>?_;injection h) rfl rfl rfl rfl rfl rfl
 ·exact locs (by rfl) p Y
 ·refine Dq (TP rfl rfl rfl M) ?_;refine Aw (a:=a) rfl (AA (pv:=.raw (.ref y)) rfl) I QI L (fun P l=>?_);refine AB (Cj l) ?_;refine Aw (a:=a) rfl (AA (pv:=.raw i) rfl) I.hit QJ L (fun P l=>?_);refine Ar (Cj l) ?_;have c:=(M.miss (o':=AX 212 z (AP #[] 1 (.ref y))) g.symm).miss (o':=AX 212 z (AP (AP #[] 1 (.ref y)) 2 P)) g.symm;refine TQ (a:=y) (k:=1) rfl (AV 1 _ _) c M8 (j:=d) (t:=O) rfl r (fun m=>?_);refine Aw (a:=a) rfl (A8 (a:=y) rfl c.hit M8 rfl) (I.hit.hit.miss g) QH L (fun Z X=>?_);refine AB (Cj X) ?_;refine Aw (a:=y) rfl (A8 (a:=y) rfl (c.hit.miss g.symm) M8 rfl) (c.hit.miss g.symm) JB r (fun v4 T=>?_);refine AB (Cj T) ?_;refine HR (AQ m rfl ?_);rw [GJ (a:=y) (b:=a) g.symm,CB,CB,CB,Qj,Qk]
 ·refine AF zq fun m V l=>?_;obtain⟨⟩:=V;refine AB q ?_;subst l;exact k m s' x
theorem YC:GV "_grouper" (.ref 212):=BE fun z=>rfl
section
variable {w:Wd} {n:Nat} {A:Around} {E:Value→Shared→Prop} {s:Shared} {gb A9:Addr} {cg ck cv it kf tk kv:Value} {hc hv ht:Bool} {se:Int} {st:Tok}
theorem Aq.more {h:Addr} {k:Array (Option Value)} (I:Aq w a h C k) {p:Addr×Obj} : Aq (w.wit (p::w.led) (d::w.Bm)) a h C k:=⟨List.mem_cons_of_mem _ I.a,List.mem_cons_of_mem _ I.d⟩
theorem GH.add {x:Addr} {g:Array (Option Value)} (G:GH w h) (I:Am h a x C g):GH (w.wit ((a,AX C x g)::w.led) (x::w.Bm)) h:=
 G.wit (fun p y=>by
  refine Or.elim (List.mem_cons.mp y) (fun e=>?_) (fun y=>?_)
  ·refine AB e ?_;exact⟨I.a,(AH _ _ _).c1,(AH _ _ _).d1⟩
  ·exact G.led p y) fun d hd=>by
  refine Or.elim (List.mem_cons.mp hd) (fun k=>?_) (fun hd=>?_)
  ·refine AB k ?_;exact I.d
  ·exact G.Bm d hd
set_option maxHeartbeats 1000000 in
theorem Jy (G:GH w s.heap) (N:BS w (n+2) A s) (p:Aq w gb A9 167 (Ah cg ck cv hc hv ht it kf (.int se st) tk)) (l:w.base.get? gb=none)
  (k:∀ m a y s',Step w (put s gb (AX 167 A9 (Ah (.int (se+1) m) ck cv hc hv ht it kf (.int (se+1) m) tk))) s'→s.heap.get? a=none→s.heap.get? y=none→Am s'.heap a y 212 (CV (.int (se+1) m) gb kv)→w.base.get? a=none→Q (.ref a) s') :
  wpAny (MD w) A (call (.ref 212) [.ref gb,kv] []) Q E s:=by
 refine Gl (fI:=194) G N (by kernel_rfl) (by kernel_rfl) (by kernel_rfl) fun P w' s₁ M O t K I D g=>?_;subst M;have F:s.heap.get? (s.heap.objs.size+1)=none:=Heap.get?_none_of_le (Nat.le_succ _);have fd:s.heap.get? s.heap.objs.size=none:=fresh_at _;have hd:w.base.get? s.heap.objs.size=none:=by
  cases e:w.base.get? s.heap.objs.size with
  |none=>rfl
  |some o=>refine Ap (G.sub _ _ e) fun o' r=>?_;injection (fd.symm.trans r)
 generalize s.heap.objs.size+1=a at *;generalize s.heap.objs.size=y at *;have c:Am s₁.heap a y 212 #[]:=⟨(K.led _ I.a).1,K.Bm _ I.d⟩
 have b:a≠gb:=BY c.a ((g.gh G).led _ p.a).1 (by simp);refine LU (w:=w.wit ((a,AX 212 y #[])::w.led) (y::w.Bm)) (n:=n) ((g.gh G).add c) t.Bd.wit p.more ⟨.head _,.head _⟩ D l fun m s' x=>⟨rfl,?_⟩
 have x:=x.Bd;rw [GJ b]at x;have u:=(G.led _ p.a).1;have H:GH (w.putL gb (AX 167 A9 (Ah (.int (se+1) m) ck cv hc hv ht it kf (.int (se+1) m) tk))) (put s gb (AX 167 A9 (Ah (.int (se+1) m) ck cv hc hv ht it kf (.int (se+1) m) tk))).heap:=
  G.put u (AH _ _ _) (AH _ _ _) l Ao fun d h=>h
 have i:=Heap.SameBut.update s₁.heap gb fun Z=>AX 167 A9 (Ah (.int (se+1) m) ck cv hc hv ht it kf (.int (se+1) m) tk);have C:(put s₁ gb (AX 167 A9 (Ah (.int (se+1) m) ck cv hc hv ht it kf (.int (se+1) m) tk))).heap.get? a=some (AX 212 y #[]):=(i.2 a b).trans c.a;have j:(put s gb (AX 167 A9 (Ah (.int (se+1) m) ck cv hc hv ht it kf (.int (se+1) m) tk))).heap.get? a=none:=((Heap.SameBut.update s.heap gb fun Z=>AX 167 A9 (Ah (.int (se+1) m) ck cv hc hv ht it kf (.int (se+1) m) tk)).2 a b).trans F;have z:=(g.put u (AH 167 A9 _) (AH 167 A9 (Ah (.int (se+1) m) ck cv hc hv ht it kf (.int (se+1) m) tk)) (HQ G u (AH _ _ _))).wit.MJ (o':=AX 212 y (CV (.int (se+1) m) gb kv)) H j C (AH _ _ _) x.wit;have v:y≠a:=by
  refine Ap (c.d) fun q f=>?_;exact BY f c.a (by simp)
 have B:y≠gb:=by
  refine Ap (c.d) fun q f=>?_;exact BY f ((g.gh G).led _ p.a).1 (by simp)
 have J:Am (put (put s₁ gb (AX 167 A9 (Ah (.int (se+1) m) ck cv hc hv ht it kf (.int (se+1) m) tk))) a (AX 212 y (CV (.int (se+1) m) gb kv))).heap a y 212 (CV (.int (se+1) m) gb kv):=
  ⟨Bk C rfl,Ap (c.d) fun q f=>⟨q,(((Heap.SameBut.update (put s₁ gb (AX 167 A9 (Ah (.int (se+1) m) ck cv hc hv ht it kf (.int (se+1) m) tk))).heap a fun Z=>AX 212 y (CV (.int (se+1) m) gb kv)).2 y v).trans (i.2 y B)).trans f⟩⟩
 have L:Am s'.heap a y 212 (CV (.int (se+1) m) gb kv):=⟨x.keep _ _ (HO H j) (fun Z=>(AH _ _ _).d1) J.a,Ap (J.d) fun q f=>Ap (x.EZ _ _ f (DB _ _ rfl)) fun sl' r=>⟨sl',r⟩⟩
 exact k m a y s' z.Bd F fd L D
end
noncomputable def Wl (w:Wd) (s₀:Shared) (gb A9:Addr) (ck cv it kf:Value) (hc hv:Bool) (se:Int) (out:Out) (sg:Shared):Prop:=
 ∃ P g dg m,out = .ret (.raw (.ref P))∧Step w (put s₀ gb (AX 167 A9 (Ah (.int (se+1) m) ck cv hc hv true it kf (.int (se+1) m) ck))) sg∧sg.heap.get? P=some (AU ck (.ref g))∧Am sg.heap g dg 212 (CV (.int (se+1) m) gb ck)∧
  s₀.heap.get? P=none∧s₀.heap.get? g=none∧s₀.heap.get? dg=none∧w.base.get? g=none
theorem Ql (b g y:Value) (k h c:Bool) (x kf e tk a:Value):AP (AP (Ah b g y k h c x kf e tk) 9 a) 5 (.bool true)=Ah b g y k h true x kf e a:=by kernel_rfl
section
variable {w:Wd} {n:Nat} {gb A9:Addr} {cg ck cv it kf tk:Value} {hc hv ht:Bool} {se:Int} {st:Tok} {pe:PE} {s₀:Shared}
theorem Step.base (h:w'.base=w.base) (x:Step w' s s'):Step w s s':=⟨fun a o n d=>x.keep a o n (by refine AB h ?_;exact d),x.EZ,x.grow,x.tabs,x.os,x.gens,x.tk⟩
theorem Df {b:Addr} {o:Obj} (h:(put s a o).heap.get? b=none) (e:∃ o',s.heap.get? a=some o') (f:o.isFreed=false):s.heap.get? b=none:=by
 by_cases k:b=a
 ·subst k;obtain⟨o',e⟩:=e;injection ((show(put s b o).heap.get? b=_ from Bk e f).symm.trans h)
 ·exact((Heap.SameBut.update s.heap a _).2 b k).symm.trans h
theorem TR (S):peek (K0 P) S (keeperOf (.ref 212))=some .machine:=by kernel_rfl
set_option maxHeartbeats 2000000 in
theorem JI (Ig:Aq w gb A9 167 (Ah cg ck cv hc hv ht it kf (.int se st) tk)) (t:w.base.get? gb=none) (eg:∃ o,s₀.heap.get? gb=some o) (z:handedIn ck=true) (i:pe "self" = some (.raw (.ref gb))) :
  Gj w (Iy (fdOf FW)) [] (n+2) pe ((Ag (BQ 10 4)).drop 2) (Wl w s₀ gb A9 ck cv it kf hc hv se) s₀:=by
 refine Aw (a:=gb) i (A8 (a:=gb) i Ig HB rfl z) Ig M6 t (fun y h2=>?_);obtain rfl:=Cj h2;refine Aw (a:=gb) i (B' true _ _) Ig.hit M5 t (fun v3 h3=>?_);obtain rfl:=CC h3;have j:=Ig.hit (sl':=AP (Ah cg y cv hc hv ht it kf (.int se st) tk) 9 y) |>.hit (sl':=AP (AP (Ah cg y cv hc hv ht it kf (.int se st) tk) 9 y) 5 (.bool true));rw [Ql]at j ⊢;refine AB CB ?_;generalize hW:(w.putL gb (AX 167 A9 (AP (Ah cg y cv hc hv ht it kf (.int se st) tk) 9 y))).putL gb (AX 167 A9 (Ah cg y cv hc hv true it kf (.int se st) y))=W at *;have hZ:W.w=w.w:=by refine Ar hW ?_;rfl
 have B:W.base=w.base:=by refine Ar hW ?_;rfl
 intro A env outer s Q E hf hl F k0 k1 k2;have R:W.base.get? gb=none:=by refine AB B ?_;exact t
 refine wpAny_execs_cons (wpAny_Assign_Name (GG F.cx YC rfl (fun S=>TR S) rfl (nm:=[]) rfl ((fun p1 p2 p3=>AE (AA i) (AE (A8 (a:=gb) i j M6 rfl z) AK):∀ p1 p2 p3,Lx W (Iy (fdOf FW)) (n+2) pe [.Name "self" p1,.Attribute (.Name "self" p2) "_tgtkey" p3] [.raw (.ref gb),.raw y]) _ _ _ A env s _ _ E F.cx fun vs s₁ r l=>AM ⟨(F.cx.step r).gh,?_⟩)) rfl);refine AW (Bi l) fun v u X q1 q2=>?_;clear l;obtain rfl:=X;refine AB q1 ?_;cases q2;have k:=F.step r;refine Jy (n:=n) k.cx.gh k.cx.ok j R fun m a T M U fa fd b hb=>?_;have e0:=(k.g0.led _ j.a).1;have f:=(k.put (L:=CJ W.led gb (AX 167 A9 (Ah (.int (se+1) m) y cv hc hv true it kf (.int (se+1) m) y))) (D:=W.Bm) e0 (AH _ _ _) (AH 167 A9 (Ah (.int (se+1) m) y cv hc hv true it kf (.int (se+1) m) y)) R Ao (fun d h=>h)).step U.wit;have fP:=j.hit (sl':=Ah (.int (se+1) m) y cv hc hv true it kf (.int (se+1) m) y);replace f:=CB▸f;refine AY (f.rebase) fun Z xz Fz hz=>?_;have za:Z a=false:=by
  cases h:Z a with
  |false=>rfl
  |true=>
   refine Or.elim (hz _ h) (fun H=>?_) (fun C=>Or.elim C (fun K=>?_) (fun N=>?_))
   ·refine AY (H) fun o e d _=>?_;obtain rfl:=(B6 b.a e);exact absurd d (AH _ _ _).d1
   ·refine CD (K) fun o v e d=>?_;obtain rfl:=(B6 b.a e);injection d
   ·refine AF (N) fun x h _=>?_;injection h
 have zd:Z T=false:=by
  refine Ap (b.d) fun sd ed=>?_;cases h:Z T with
  |false=>rfl
  |true=>
   refine Or.elim (hz _ h) (fun a1=>?_) (fun a2=>Or.elim a2 (fun J=>?_) (fun G=>?_))
   ·refine AY (a1) fun o e d h=>?_;refine Ft (k.ns) fun mm ob es ep el _=>?_;replace fd:=h▸fd;replace fd:=el.symm.trans fd;injection fd
   ·refine CD (J) fun o v e d=>?_;obtain rfl:=(B6 ed e);injection d
   ·refine AF (G) fun x h _=>?_;injection h
 refine B4 (pv:=.raw (.ref a)) Fz (.inl rfl) rfl none (fun _ h=>by injection h) fun O q _ _ _=>?_;have Y:(pe.set "grouper" (.raw (.ref a))) "self" = some (.raw (.ref gb)):=by refine Eq.trans ?_ i;rfl
 refine wpAny_execs_cons (wpAny_Return_some (Jw rfl rfl ?_));refine(A8 (w:=W.putL gb (AX 167 A9 (Ah (.int (se+1) m) y cv hc hv true it kf (.int (se+1) m) y))) (a:=gb) Y fP HB rfl z) A env O _ E q.cx fun v4 a0 P V=>?_;have p:=q.step P;refine(AA (w:=W.putL gb (AX 167 A9 (Ah (.int (se+1) m) y cv hc hv true it kf (.int (se+1) m) y))) (pv:=.raw (.ref a)) rfl) A env a0 _ E p.cx fun v5 g a4 a3=>?_;have c:=p.step a4;cases V;cases a3;have xp:=Step.push (w:=w) g (AU y (.ref a));have I:=((⟨(Bv za).trans b.a,Ap (b.d) fun sd ed=>⟨sd,(Bv zd).trans ed⟩⟩:Am (FZ M Z).heap a T 212 (CV (.int (se+1) m) gb y)).step c.st Fz.g0).step (Step.push g (AU y (.ref a))) c.cx.gh;refine k1 (.raw (.ref g.heap.objs.size)) _ _ _ (IP g.heap.objs.size a T m rfl ((((xz.trans c.st).Bd).base B:Step w (put s₀ gb (AX 167 A9 (Ah (.int (se+1) m) y cv hc hv true it kf (.int (se+1) m) y))) g).trans xp) (BD _ rfl) I (Df ((xz.trans c.st).gone f.g0 (fresh_at _)) eg rfl:s₀.heap.get? g.heap.objs.size=none) (Df ((k.st).gone k.g0 fa) eg rfl:s₀.heap.get? a=none) (Df ((k.st).gone k.g0 fd) eg rfl:s₀.heap.get? T=none) (by refine Ar B ?_;exact hb)) (Step.refl W _) rfl
end
section
variable {w:Wd} {names:BC} {oc:List Str} {n:Nat} {A:Around} {env:Env} {outer:List Env} {s₀ s:Shared} {pe:PE}
theorem Qm {e:Addr} {f:Option (Option Addr)} (o:A.frames=some (env::outer)) (hl:env.frame=some env.locals) (G:GH w s₀.heap) (x:Step w s₀ s) (l:CT w.base s.heap (env::outer)) (X:Ep s₀.heap s.heap cls e f) (i:f=none∨f=some none∨f=some (some env.locals))
  (k:∀ s',Step w s₀ s'→CT w.base s'.heap (env::outer)→Ep s₀.heap s'.heap cls e (some (some env.locals))→E (.ref e) s'):notedBy (MD w) A env (fun e s'=>cameBackBy (MD w) A env E e s') (.ref e) s:=by
 refine note o l hl G x X i fun h a g y=>?_;obtain⟨_,r,vs,p,_,j,_,_,T,_,_,_,q,_⟩:=id y;refine AD (wpAny_field (s:={ s with heap:=h }) p j q ?_);refine AB (if_neg (ne_true_of_eq_false rfl)) ?_;refine AB hl ?_;refine Hq (s:={ s with heap:=h }) (m':=some env.locals) G g y fun m c d b=>?_;exact k _ d ((l.dk a).dk c) b
noncomputable def Qo:List Stmt:=Yh ((Ag (BQ 10 4)).getD 1 (.Pass default))
variable {gb A9:Addr} {cg ck cv it kf tk se:Value} {hv ht:Bool}
theorem Qp {Q:Flow→Shared→Prop} (F:Fm w (Iy (fdOf FW)) [] (n+2) A env s₀ none s pe) (y:pe "self" = some (.raw (.ref gb))) (I:Aq w gb A9 167 (Ah cg ck cv true hv ht it kf se tk))
  (r:ht=false∨(ht=true∧∃ k u o p,tk = .int k u∧ck = .int o p∧k≠o∧u≠0∧p≠0∧(u=p→k=o))) (kk:∀ s',Fm w (Iy (fdOf FW)) [] (n+2) A env s₀ none s' pe→Q .brk s'):wpAny (MD w) A (execs Qo env) Q E s:=by
 refine Dc (An (Az (f:=.bool true) (BI (A8 (a:=gb) y I K7 rfl) rfl)) rfl A env s _ E F.cx fun s₁ j=>?_);have h:=F.step j;refine Or.elim r (fun e=>?_) (fun c=>?_)
 ·clear r;obtain rfl:=e;refine Dc (An (Bn (Az (f:=.bool false) (BI (A8 (a:=gb) y I M5 rfl) rfl))) rfl A env s₁ _ E h.cx fun d x=>?_);exact wpAny_execs_cons (fun Z Z Z=>kk _ (h.step x))
 ·refine JX (c) fun e k u o p i l B z t q=>?_;clear c r;obtain rfl:=e;obtain rfl:=i;obtain rfl:=l;refine Dc (An (Bn (Az (f:=.bool true) (BI (A8 (a:=gb) y I M5 rfl) rfl))) rfl A env s₁ _ E h.cx fun d x=>?_);have g:=h.step x;refine Dc (An (b:=true) (Bn (Az (IB (n:=n+1) rfl y y I I M6 HB rfl rfl z t q))) (by simp [Ce,B]) A env d _ E g.cx fun v m=>?_);exact wpAny_execs_cons (fun Z Z Z=>kk _ (g.step m))
end
section
variable {w:Wd} {n:Nat} {A:Around} {env:Env} {outer:List Env} {s₀ s:Shared} {pe:PE} {gb A9 it l ig ER IT:Addr} {o o':Obj} {items:Array Value} {c:Nat} {t:Tok} {ts:List (Addr×Obj)}
 {cg ck cv se tk:Value} {hv ht:Bool} {R:Out→Shared→Prop} {r:JG}
noncomputable abbrev O5 (w:Wd):BC:=Iy (fdOf FW)
theorem TS {Q:Flow→Shared→Prop} (U:A.frames=some (env::outer)) (F:Fm w (O5 w) [] (n+3) A env s₀ none s pe) (M:pe "self" = some (.raw (.ref gb)))
  (K:Jx w gb A9 it l ig ER IT (Ah cg ck cv false hv ht (.ref it) (.ref ig) se tk) o items c t ts) (R:Fj o items l r o') (O:∀ x,r = .item x→∃ T k u y,x = .ref T∧(T,AU (.int k u) y)∈ts)
  (Y:∀ T k u y s',r = .item (.ref T)→(T,AU (.int k u) y)∈ts→Fm ((w.putL it o').putL gb (AX 167 A9 (Ah cg (.int k u) (.ref T) true true ht (.ref it) (.ref ig) se tk))) (O5 w) [] (n+3) A env (put (put s₀ it o') gb (AX 167 A9 (Ah cg (.int k u) (.ref T) true true ht (.ref it) (.ref ig) se tk))) none s' pe→Q .next s')
  (Z:∀ e s',r = .stop→Step w (put s₀ it o') s'→CT w.base s'.heap (env::outer)→Ep (put s₀ it o').heap s'.heap (.type "StopIteration") e (some none)→E (.ref e) s'):wpAny (MD w) A (execs Qo env) Q E s:=by
 refine Bt (De R) fun m m'=>?_;refine Dc (An (Az (f:=.bool false) (BI (A8 (a:=gb) M K.g K7 rfl) rfl)) rfl A env s _ E F.cx fun s₁ H=>?_);have B:=F.step H;refine wpAny_execs_cons (wpAny_Expr ?_ F.cx.eo.quiet);refine LQ (o:=KW) B.cx M K.g (f:=156) (by kernel_rfl) (by kernel_rfl) (by kernel_rfl) (by kernel_rfl) rfl rfl rfl AK (by decide) fun vs S J I=>?_;refine AB (A6 I) ?_;have v:=B.step J;have b:=v.put (L:=CJ w.led it o') (D:=w.Bm) (F.g0.led _ K.i).1 m m' K.bi Ao (fun d h=>h);refine wpAny_call (H' (n:=n) v.cx.gh v.cx.ok K R rfl rfl O (fun T p u y q P V j=>?_) (fun e q P j N=>?_))
 ·have G:=b.put (L:=CJ (w.putL it o').led gb (AX 167 A9 (ES (Ah cg ck cv false hv ht (.ref it) (.ref ig) se tk) (.ref T) (.int p u)))) (D:=w.Bm) (b.g0.led _ (K.HD F.g0 (DG R)).g.a).1 (AH _ _ _) (AH _ _ (ES (Ah cg ck cv false hv ht (.ref it) (.ref ig) se tk) (.ref T) (.int p u))) K.bg Ao (fun d h=>h);have z:=G.step j.wit;rw [Fl]at z;exact wpAny_execs_nil (Y T p u y q P V z)
 ·refine AF (b.cx.ok.f) fun W C X=>?_;rw [U]at C;obtain rfl:env::outer=W:=Ai C;exact Z e q P (b.st.Bd.trans j) (X.step (w:=w.putL it o') j.wit) (N.old fun a h=>b.st.gone b.g0 h)
theorem TU (g:pe "self" = some (.raw (.ref gb))) (I:Aq w gb A9 167 (Ah cg ck cv true hv ht (.ref it) (.ref ig) se tk))
  (p:ht=false∨(ht=true∧∃ k u a b,tk = .int k u∧ck = .int a b∧k≠a∧u≠0∧b≠0∧(u=b→k=a)))
  (q:Gj w (O5 w) [] (n+2) pe ((Ag (BQ 10 4)).drop 2) R s₀):Gj w (O5 w) [] (n+2) pe ((Ag (BQ 10 4)).drop 1) R s₀:=
 fun A env h s Q E j hl F k0 i m=>by
 refine wpAny_execs_cons (wpAny_While (codeAny_whileLoop (fun z s'=>Fm w (O5 w) [] (n+2) A env s₀ none s' pe) (fun z s' d=>?_) 0 F));refine(Az (w:=w) (names:=O5 w) (n:=n+2) (pe:=pe) (f:=.bool true) (B' true _ _) (by intros;rfl)) A env s' _ _ d.cx fun s₁ y=>?_;exact Qp (d.step y) g I p fun x e=>q A env h x Q E j hl e k0 i m
theorem TV (J:pe "self" = some (.raw (.ref gb))) (K:Jx w gb A9 it l ig ER IT (Ah cg ck cv false hv ht (.ref it) (.ref ig) se tk) o items c t ts) (S:Fj o items l r o') (O:∀ x,r = .item x→∃ T k u y,x = .ref T∧(T,AU (.int k u) y)∈ts)
  (V:r≠.stop→ht=false)
  (X:∀ T k u y,r = .item (.ref T)→(T,AU (.int k u) y)∈ts→Gj ((w.putL it o').putL gb (AX 167 A9 (Ah cg (.int k u) (.ref T) true true ht (.ref it) (.ref ig) se tk))) (O5 w) [] (n+3) pe ((Ag (BQ 10 4)).drop 2) R (put (put s₀ it o') gb (AX 167 A9 (Ah cg (.int k u) (.ref T) true true ht (.ref it) (.ref ig) se tk))))
  (W:r = .stop→R (.exc (.type "StopIteration")) (put s₀ it o')):Gj w (O5 w) [] (n+3) pe ((Ag (BQ 10 4)).drop 1) R s₀:=fun A env P s Q E M hl F k0 Z U=>by
 refine wpAny_execs_cons (wpAny_While (codeAny_whileLoop (fun j s'=>(j=1∧Fm w (O5 w) [] (n+3) A env s₀ none s' pe)∨(j=0∧∃ T k u y,r = .item (.ref T)∧(T,AU (.int k u) y)∈ts∧
  Fm ((w.putL it o').putL gb (AX 167 A9 (Ah cg (.int k u) (.ref T) true true ht (.ref it) (.ref ig) se tk))) (O5 w) [] (n+3) A env (put (put s₀ it o') gb (AX 167 A9 (Ah cg (.int k u) (.ref T) true true ht (.ref it) (.ref ig) se tk))) none s' pe)) (fun j s' hI=>?_) 1 (.inl ⟨rfl,F⟩)))
 refine Or.elim hI (fun C=>?_) (fun G=>?_)
 ·refine W9 (C) fun H=>?_;refine(Az (w:=w) (names:=O5 w) (n:=n+3) (pe:=pe) (f:=.bool true) (B' true _ _) (by intros;rfl)) A env s' _ _ H.cx fun s₁ a=>?_;refine TS M (H.step a) J K S O (fun T k u y p v N b=>?_) (fun e p v B Y I=>?_)
  ·exact(AQ 0 Nat.zero_lt_one (.inr ⟨rfl,T,k,u,y,v,N,b⟩))
  ·refine Bt (De S) fun m m'=>?_;exact Qm (w:=w.putL it o') (s₀:=put s₀ it o') M hl (F.g0.put (F.g0.led _ K.i).1 m m' K.bi Ao fun d h=>h) B.wit Y I (.inr (.inl rfl)) fun z D q L=>U _ (put s₀ it o') e _ z (W v) (.inr (.inr rfl)) q D.Bd L
 ·refine Nw (G) fun T k u y v N H=>?_;refine(Az (w:=(w.putL it o').putL gb (AX 167 A9 (Ah cg (.int k u) (.ref T) true true ht (.ref it) (.ref ig) se tk))) (names:=O5 w) (n:=n+3) (pe:=pe) (f:=.bool true) (B' true _ _) (by intros;rfl)) A env s' _ _ H.cx fun s₁ a=>?_;refine Qp (w:=(w.putL it o').putL gb (AX 167 A9 (Ah cg (.int k u) (.ref T) true true ht (.ref it) (.ref ig) se tk))) (n:=n+1) (H.step a) J ((K.HD F.g0 (DG S)).g.hit) (.inl (V (by refine AB v ?_;exact fun h=>by injection h))) fun p b=>?_;exact C8 (R:=R) (w:=w) (w':=(w.putL it o').putL gb (AX 167 A9 (Ah cg (.int k u) (.ref T) true true ht (.ref it) (.ref ig) se tk))) rfl rfl (X T k u y v N) M hl b k0 Z U
end
theorem LV {oc:List Str} {R a:Out→Shared→Prop} (h:Gj w names oc n pe body R s₀) (g:∀ out sg,R out sg→a out sg):Gj w names oc n pe body a s₀:=
 fun A env k s Q E c hl F k0 b f=>h A env k s Q E c hl F (fun sg s' r x=>k0 sg s' (g _ _ r) x) (fun pv sg v s' r x q=>b pv sg v s' (g _ _ r) x q) fun cls sg e i s' r y d x X=>f cls sg e i s' (g _ _ r) y d x X
theorem Wl.un {L:List (Addr×Obj)} {D:List Addr} {k:Addr} {c b a kf:Value} {x e:Bool} {y:Int} {out:Out} {sg:Shared} (h:Wl (w.wit L D) s₀ d k c b a kf x e y out sg):Wl w s₀ d k c b a kf x e y out sg:=
 D5 (h) fun P g i m j l f=>(Hg P g i m j l.Bd f)
theorem LW (d y x:Value) (b h g:Bool) (e kf k tk a:Value):AP (Ah d y x b h g e kf k tk) 0 a=Ah a y x b h g e kf k tk:=by kernel_rfl
section
variable {w:Wd} {n:Nat} {A:Around} {s:Shared} {gb A9 e l ig ER IT:Addr} {o o':Obj} {items:Array Value} {c:Nat} {t:Tok} {ts:List (Addr×Obj)}
 {d y x tk:Value} {h g:Bool} {r:JG} {k:Int} {st:Tok} {Q:Value→Shared→Prop} {E:Value→Shared→Prop}
noncomputable def fQ (w:Wd) (s:Shared) (gb A9 it ig:Addr) (o':Obj) (ts:List (Addr×Obj)) (ck cv tk:Value) (hv ht:Bool) (r:JG) (se:Int) (st:Tok) (out:Out) (sg:Shared):Prop:=
 (∃ t0 T k u y,r = .item (.ref T)∧(T,AU (.int k u) y)∈ts∧Wl w (put (put (put s gb (AX 167 A9 (Ah (.int 0 t0) ck cv false hv ht (.ref it) (.ref ig) (.int se st) tk))) it o') gb (AX 167 A9 (Ah (.int 0 t0) (.int k u) (.ref T) true true ht (.ref it) (.ref ig) (.int se st) tk))) gb A9 (.int k u) (.ref T) (.ref it) (.ref ig) true true se out sg)∨
 (∃ t0,r = .stop∧out = .exc (.type "StopIteration")∧sg=put (put s gb (AX 167 A9 (Ah (.int 0 t0) ck cv false hv ht (.ref it) (.ref ig) (.int se st) tk))) it o')
set_option maxHeartbeats 2000000 in
theorem LX (G:GH w s.heap) (ok:BS w (n+4) A s) (K:Jx w gb A9 it l ig ER IT (Ah cg ck cv false hv ht (.ref it) (.ref ig) (.int se st) tk) o items c t ts) (N:Fj o items l r o') (hit:∀ x,r = .item x→∃ T k u y,x = .ref T∧(T,AU (.int k u) y)∈ts) (hh:r≠.stop→ht=false)
  (k1:∀ T k u y P g dg m s',r = .item (.ref T)→(T,AU (.int k u) y)∈ts→Step w (put (put s it o') gb (AX 167 A9 (Ah (.int (se+1) m) (.int k u) (.ref T) true true true (.ref it) (.ref ig) (.int (se+1) m) (.int k u)))) s'→s'.heap.get? P=some (AU (.int k u) (.ref g))→
   Am s'.heap g dg 212 (CV (.int (se+1) m) gb (.int k u))→s.heap.get? P=none→s.heap.get? g=none→s.heap.get? dg=none→w.base.get? g=none→Q (.ref P) s')
  (k2:∀ j e s',r = .stop→Step w (put (put s gb (AX 167 A9 (Ah (.int 0 j) ck cv false hv ht (.ref it) (.ref ig) (.int se st) tk))) it o') s'→Ep (put (put s gb (AX 167 A9 (Ah (.int 0 j) ck cv false hv ht (.ref it) (.ref ig) (.int se st) tk))) it o').heap s'.heap (.type "StopIteration") e (some none)→E (.ref e) s') :
  codeAny (MD w) A (.call (.ref 163) ⟨[.ref gb],[]⟩) (DH Q E) s:=by
 refine Bt (De N) fun m0 m'=>?_;have I:∀ sl',GH (w.putL gb (AX 167 A9 sl')) (put s gb (AX 167 A9 sl')).heap:=fun sl'=>G.put (G.led _ K.g.a).1 (AH _ _ _) (AH _ _ _) K.bg Ao fun d h=>h;have L:∀ sl',Jx (w.putL gb (AX 167 A9 sl')) gb A9 it l ig ER IT sl' o items c t ts:=fun sl'=>K.U2 G sl';have G2:∀ sl',GH ((w.putL gb (AX 167 A9 sl')).putL it o') (put (put s gb (AX 167 A9 sl')) it o').heap:=fun sl'=>(I sl').put ((I sl').led _ (L sl').i).1 m0 m' K.bi Ao fun d h=>h;refine CF (n:=n+3) (o:=FW) (fd:=fdOf FW) (body:=Ag (BQ 10 4)) (bs:=[("self",.raw (.ref gb))]) (binds:=[("self",.ref gb)])
  (R:=fQ w s gb A9 it ig o' ts ck cv tk hv ht r se st)
  G ok rfl rfl rfl (fun S=>rfl) (fun h G=>codeRec_of G.kin (by kernel_rfl)) rfl rfl ⟨rfl,trivial⟩ (fun p hp=>?_) ?_ (fun cls sg M=>?_) (fun pv sg v s' M x q=>?_) (fun cls sg e s' M x X=>?_) rfl rfl rfl rfl rfl rfl
 ·refine AB (List.mem_singleton.mp hp) ?_;exact .inl rfl
 ·refine Aw (a:=gb) rfl (AV 0 _ _) K.g JB K.bg (fun v2 F=>?_);refine Ap (C9 F) fun j W=>?_;obtain rfl:=W;refine AB (LW ..) ?_;refine TV (n:=n) rfl (L _) N hit hh (fun T k u y H F=>?_) (fun H=>.inr (Aj j H rfl rfl));have J:=((L (Ah (.int 0 j) ck cv false hv ht (.ref it) (.ref ig) (.int se st) tk)).HD (I _) (DG N)).g.hit (sl':=Ah (.int 0 j) (.int k u) (.ref T) true true ht (.ref it) (.ref ig) (.int se st) tk);refine LV (JI (n:=n+1) J K.bg (by refine Ap ((⟨_,((G2 _).led _ ((L _).HD (I _) (DG N)).g.a).1⟩:∃ o,(put (put s gb (AX 167 A9 (Ah (.int 0 j) ck cv false hv ht (.ref it) (.ref ig) (.int se st) tk))) it o').heap.get? gb=some o)) fun oe e=>?_;exact⟨_,Bk e rfl⟩) rfl rfl) fun out sg hg=>.inl (It j T k u y H F hg.un.un.un)
 ·refine Or.elim M (fun V=>?_) (fun C=>?_)
  ·refine Eg (V) fun _ _ _ _ _ _ _ _ _ _ _ h _=>?_;injection h
  ·refine AY (C) fun j _ _ Z=>?_;clear C;obtain rfl:=Z;exact(DB _ _ (G2 _))
 ·refine Or.elim M (fun B=>?_) (fun Y=>?_)
  ·refine Eh (B) fun j T k u y H F P g dg m h3 h4 h5 h6 h7 h8 h9 fR=>?_;clear B;obtain rfl:=(Internal.Out.ret.inj h3);obtain rfl:=q;rw [CB,GJ (DJ G K.g.a K.i (by refine AB K.oc ?_;simp)),CB]at h4;have nn:∀ b,(put (put (put s gb (AX 167 A9 (Ah (.int 0 j) ck cv false hv ht (.ref it) (.ref ig) (.int se st) tk))) it o') gb (AX 167 A9 (Ah (.int 0 j) (.int k u) (.ref T) true true ht (.ref it) (.ref ig) (.int se st) tk))).heap.get? b=none→s.heap.get? b=none:=fun b h=>Df (Df (Df h (⟨_,((G2 _).led _ ((L _).HD (I _) (DG N)).g.a).1⟩) rfl) (⟨_,((I _).led _ (L _).i).1⟩) m'.f) (⟨_,(G.led _ K.g.a).1⟩) rfl;have Gi:GH (w.putL it o') (put s it o').heap:=G.put (G.led _ K.i).1 m0 m' K.bi Ao fun d h=>h;have Gz:=Gi.put (Gi.led _ (K.HD G (DG N)).g.a).1 (AH _ _ _) (AH 167 A9 (Ah (.int (se+1) m) (.int k u) (.ref T) true true true (.ref it) (.ref ig) (.int (se+1) m) (.int k u))) K.bg (Ao (l:=CJ w.led it o')) (D:=w.Bm) fun d h=>h;have Gs:=(h4.wit.wit).gh Gz;refine k1 T k u y P g dg m s' H F (h4.trans x) ?_ ?_ (nn _ h7) (nn _ h8) (nn _ h9) fR
   ·exact x.wit.wit.get Gs h5 (Ab rfl) (AG rfl)
   ·exact h6.step x.wit.wit Gs
  ·refine AY (Y) fun _ _ h _=>?_;injection h
 ·refine Or.elim M (fun O=>?_) (fun z=>?_)
  ·refine Eg (O) fun _ _ _ _ _ _ _ _ _ _ _ h _=>?_;injection h
  ·refine AY (z) fun j H F U=>?_;clear M z;obtain rfl:=U;obtain rfl:=(Internal.Out.exc.inj F);exact k2 j e s' H x X
end
section
variable {w:Wd} {n:Nat} {A:Around} {s:Shared} {gb A9 it ig:Addr}
 {cg cv:Value} {hv:Bool} {se:Int} {st:Tok} {Q:Value→Shared→Prop} {E:Value→Shared→Prop} {k k':Int} {u u':Tok}
set_option maxHeartbeats 2000000 in
theorem Qq (G:GH w s.heap) (L:BS w (n+3) A s) (I:Aq w gb A9 167 (Ah cg (.int k' u') cv true hv true (.ref it) (.ref ig) (.int se st) (.int k u))) (r:w.base.get? gb=none) (U:k≠k') (N:u≠0) (z:u'≠0) (j:u=u'→k=k')
  (T:∀ P g i m s',Step w (put s gb (AX 167 A9 (Ah (.int (se+1) m) (.int k' u') cv true hv true (.ref it) (.ref ig) (.int (se+1) m) (.int k' u')))) s'→s'.heap.get? P=some (AU (.int k' u') (.ref g))→
   Am s'.heap g i 212 (CV (.int (se+1) m) gb (.int k' u'))→s.heap.get? P=none→s.heap.get? g=none→s.heap.get? i=none→w.base.get? g=none→Q (.ref P) s') :
  codeAny (MD w) A (.call (.ref 163) ⟨[.ref gb],[]⟩) (DH Q E) s:=by
 refine CF (n:=n+2) (o:=FW) (fd:=fdOf FW) (body:=Ag (BQ 10 4)) (bs:=[("self",.raw (.ref gb))]) (binds:=[("self",.ref gb)])
  (R:=fun out sg=>∃ y,Wl w (put s gb (AX 167 A9 (Ah (.int 0 y) (.int k' u') cv true hv true (.ref it) (.ref ig) (.int se st) (.int k u)))) gb A9 (.int k' u') cv (.ref it) (.ref ig) true hv se out sg)
  G L rfl rfl rfl (fun S=>rfl) (fun h G=>codeRec_of G.kin (by kernel_rfl)) rfl rfl ⟨rfl,trivial⟩ (fun p V=>?_) ?_ (fun cls sg h=>by refine Fu (h) fun Z Z Z Z Z h Z=>?_;injection h) (fun pv sg v s' D x q=>?_) (fun cls sg e s' h=>by refine Fu (h) fun Z Z Z Z Z h Z=>?_;injection h) rfl rfl rfl rfl rfl rfl
 ·refine AB (List.mem_singleton.mp V) ?_;exact .inl rfl
 ·refine Aw (a:=gb) rfl (AV 0 _ _) I JB r (fun Y B=>?_);refine Ap (C9 B) fun y c=>?_;clear B;obtain rfl:=c;refine AB (LW ..) ?_;have J:=I.hit (sl':=Ah (.int 0 y) (.int k' u') cv true hv true (.ref it) (.ref ig) (.int se st) (.int k u));refine TU (n:=n) rfl J (.inr (JY rfl k u k' u' rfl rfl U N z j)) ?_;exact LV (JI (n:=n) J r ⟨_,Bk (G.led _ I.a).1 rfl⟩ rfl rfl) fun out sg X=>⟨y,X.un⟩
 ·refine Hh (D) fun y P g i m O f K H M F W t=>?_;clear D;obtain rfl:=(Internal.Out.ret.inj O);obtain rfl:=q;replace f:=CB▸f;have l:∀ b,(put s gb (AX 167 A9 (Ah (.int 0 y) (.int k' u') cv true hv true (.ref it) (.ref ig) (.int se st) (.int k u)))).heap.get? b=none→s.heap.get? b=none:=fun b h=>Df h (⟨_,(G.led _ I.a).1⟩) rfl;have C:=(f.wit).gh ((fun sl'=>G.put (G.led _ I.a).1 (AH _ _ _) (AH _ _ _) r Ao fun d h=>h) _);refine T P g i m s' (f.trans x) ?_ ?_ (l _ M) (l _ F) (l _ W) t
  ·exact x.wit.get C K (Ab rfl) (AG rfl)
  ·exact H.step x.wit C
end
set_option genSizeOf false in
set_option genInjectivity false in
structure GP where
 gb:Addr
 A9:Addr
 it:Addr
 D:Addr
 ig:Addr
 ER:Addr
 IT:Addr
 N:Nat
 T:Nat→Addr
 a:Nat→Int
 u:Nat→Tok
 y:Nat→Value
 c:Nat
 t:Tok
noncomputable def GP.Ia (g:GP):Array Value:=((List.range g.N).map fun k=>Value.ref (g.T k)).toArray
noncomputable def GP.TY (g:GP):List (Addr×Obj):=(List.range g.N).map fun k=>(g.T k,AU (.int (g.a k) (g.u k)) (g.y k))
noncomputable def GP.led (g:GP) (sl:Array (Option Value)) (o:Obj):List (Addr×Obj):=(g.gb,AX 167 g.A9 sl)::(g.it,o)::(g.D,seqObj "list" g.Ia g.c)::(g.ig,AX 310 g.ER #[some (.ref g.IT)])::(g.IT,Ex #[.int 0 g.t])::g.TY
theorem GP.get (g:GP) {k:Nat} (h:k<g.N):g.Ia[k]? = some (.ref (g.T k)):=by
 unfold GP.Ia;rw [List.getElem?_toArray,List.getElem?_map,List.getElem?_range h];rfl
theorem GP.out (g:GP) {k:Nat} (h:g.N≤k):g.Ia[k]? = none:=by
 unfold GP.Ia;rw [List.getElem?_toArray,List.getElem?_eq_none (by simpa using h)]
theorem GP.mem (g:GP) {k:Nat} (h:k<g.N):(g.T k,AU (.int (g.a k) (g.u k)) (g.y k))∈g.TY:=List.mem_map.mpr ⟨k,List.mem_range.mpr h,rfl⟩
theorem GP.of (g:GP) {p:Addr×Obj} (h:p∈g.TY):∃ k,k<g.N∧p=(g.T k,AU (.int (g.a k) (g.u k)) (g.y k)):=by
 refine AF (List.mem_map.mp h) fun k x e=>?_;clear h;obtain rfl:=e;exact(AQ k (List.mem_range.mp x) rfl)
structure LY (w:Wd) (g:GP) (s₀:Shared):Prop where
 G:GH w s₀.heap
 fg:s₀.heap.get? g.gb=none
 fi:s₀.heap.get? g.it=none
 bg:w.base.get? g.gb=none
 bi:w.base.get? g.it=none
structure C' (w:Wd) (g:GP) (s₀:Shared) (sl:Array (Option Value)) (o:Obj) (s:Shared):Prop where
 st:Step w s₀ s
 gi:Am s.heap g.gb g.A9 167 sl
 i:s.heap.get? g.it=some o
 om:CE o
 oc:o.cls = .type "list_iterator"
 l:s.heap.get? g.D=some (seqObj "list" g.Ia g.c)
 ig:Am s.heap g.ig g.ER 310 #[some (.ref g.IT)]
 IT:s.heap.get? g.IT=some (Ex #[.int 0 g.t])
 ts:∀ k,k<g.N→s.heap.get? (g.T k)=some (AU (.int (g.a k) (g.u k)) (g.y k))
section
variable {w:Wd} {g:GP} {s₀ s s':Shared} {sl sl':Array (Option Value)} {o o':Obj}
theorem C'.led (S:C' w g s₀ sl o s):∀ p∈g.led sl o,s.heap.get? p.1=some p.2∧p.2.cls≠.none∧¬Af p.2:=
 A0 (B2 S.gi.a ((AH _ _ _).c1) ((AH _ _ _).d1)) (A0 (B2 S.i S.om.c1 S.om.d1) (A0 (B2 S.l Wo (AG rfl)) (A0 (B2 S.ig.a ((AH _ _ _).c1) ((AH _ _ _).d1)) (A0 (B2 S.IT Wo (AG rfl)) fun p x=>by
  refine AF (g.of x) fun k e h=>?_;obtain rfl:=h;exact(B2 (S.ts k e) Wo (AG rfl))))))
noncomputable abbrev GW (w:Wd) (g:GP) (sl:Array (Option Value)) (o:Obj):Wd:=w.wit (g.led sl o) [g.A9,g.ER]
noncomputable abbrev V5 (w:Wd) (g:GP) (sl:Array (Option Value)) (o:Obj) (gr Fn:Addr) (fU:Array (Option Value)):Wd:=w.wit ((gr,AX 212 Fn fU)::g.led sl o) [Fn,g.A9,g.ER]
theorem C'.dM {W:Wd} (S:C' w g s₀ sl o s) (hl:∀ p∈g.led sl o,p∈W.led) (a:g.A9∈W.Bm) (b:g.ER∈W.Bm) (x:W.base.get? g.gb=none) (y:W.base.get? g.it=none):Jx W g.gb g.A9 g.it g.D g.ig g.ER g.IT sl o g.Ia g.c g.t g.TY:=
 ⟨⟨hl _ D1,a⟩,hl _ R0,S.oc,hl _ We,⟨hl _ Ym,b⟩,hl _ cL,fun p e=>⟨hl p (cM e),by refine AF (g.of e) fun k d h=>?_;clear e;obtain rfl:=h;exact⟨R4 (by decide),Rz⟩⟩,x,y⟩
theorem C'.gw (S:C' w g s₀ sl o s) (F:LY w g s₀):GH (GW w g sl o) s.heap∧Jx (GW w g sl o) g.gb g.A9 g.it g.D g.ig g.ER g.IT sl o g.Ia g.c g.t g.TY:=
 ⟨(S.st.gh F.G).wit S.led (A0 S.gi.d (A0 S.ig.d Dh)),S.dM (fun z h=>h) D1 R0 F.bg F.bi⟩
theorem C'.dP {x e:Addr} {k:Array (Option Value)} (S:C' w g s₀ sl o s) (F:LY w g s₀) (I:Am s.heap x e 212 k):GH (V5 w g sl o x e k) s.heap∧
  Jx (V5 w g sl o x e k) g.gb g.A9 g.it g.D g.ig g.ER g.IT sl o g.Ia g.c g.t ((x,AX 212 e k)::g.TY)∧Aq (V5 w g sl o x e k) x e 212 k:=
 have h:Jx (V5 w g sl o x e k) g.gb g.A9 g.it g.D g.ig g.ER g.IT sl o g.Ia g.c g.t g.TY:=S.dM (fun z=>.tail _) R0 We F.bg F.bi
 ⟨(S.st.gh F.G).wit (A0 ⟨I.a,(AH _ _ _).c1,(AH _ _ _).d1⟩ S.led) (A0 I.d (A0 S.gi.d (A0 S.ig.d Dh))),{ h with ts:=A0 ⟨D1,Wn,Y9 (Nat.ne_of_beq_eq_false rfl)⟩ h.ts },⟨D1,D1⟩⟩
theorem C'.next (S:C' w g s₀ sl o s) (F:LY w g s₀) (m:CE o') (oc:o'.cls = .type "list_iterator") (x:Step w (put (put s g.it o') g.gb (AX 167 g.A9 sl')) s'):C' w g s₀ sl' o' s'∧Mv w s₀ [g.gb,g.it] s s':=by
 have c:=Heap.SameBut.update s.heap g.it fun Z=>o';have y:g.gb≠g.it:=BY S.gi.a S.i (S.oc▸Wn);have v:Mv w s₀ [g.gb,g.it] s { s with heap:=Ea s.heap g.it o',toks:=s.toks }:=Mv.upd F.G S.st R0 F.fi S.i S.om.d4 c;have t:(Ea s.heap g.it o').get? g.gb=some (AX 167 g.A9 sl):=(c.2 _ y).trans S.gi.a;have j:=Heap.SameBut.update (Ea s.heap g.it o') g.gb fun Z=>AX 167 g.A9 sl';have n:Mv w s₀ [g.gb,g.it] { s with heap:=Ea s.heap g.it o',toks:=s.toks } { s with heap:=Ea (Ea s.heap g.it o') g.gb (AX 167 g.A9 sl'),toks:=s.toks }:=
  Mv.upd (s:={ s with heap:=Ea s.heap g.it o',toks:=s.toks }) F.G v.st D1 F.fg t (AH _ _ _).d4 j
 have h:=(v.trans n).trans (Mv.step F.G n.st x);have r:=n.st.gh F.G;have nm:∀ {b:Addr} {q:Obj},s.heap.get? b=some q→q.cls≠.ref 167→q.cls≠.type "list_iterator"→b∉[g.gb,g.it]:=fun e C B=>Wf (BY e S.gi.a C) (BY e S.i (S.oc▸B));refine Ap (S.gi.d) fun H z=>?_;refine Ap (S.ig.d) fun A p=>?_;refine⟨⟨h.st,⟨x.get r (Bk t rfl) (AH _ _ _).nt (AH _ _ _).d1,?_⟩,x.get r ((j.2 _ y.symm).trans (Bk S.i m.f)) m.nt m.d1,m,oc,h.kp _ _ (nm S.l Rz (R4 (by decide))) (Ab rfl) (AG rfl) S.l,S.ig.mv h (nm S.ig.a (Y9 (Nat.ne_of_beq_eq_false rfl)) Wn) (nm p Rz (R4 (by decide))),h.kp _ _ (nm S.IT Rz (R4 (by decide))) (Ab rfl) (AG rfl) S.IT,fun k u=>h.tup (nm (S.ts k u) Rz (R4 (by decide))) (S.ts k u)⟩,h⟩
 refine Ap (h.dc g.A9 _ (nm z Rz (R4 (by decide))) ⟨_,_,rfl⟩ z) fun E D=>?_;exact⟨_,D⟩
end
noncomputable def GP.R3 (g:GP) (m se tk:Value) (e:Nat):Array (Option Value):=Ah m (.int (g.a e) (g.u e)) (.ref (g.T e)) true true true (.ref g.it) (.ref g.ig) se tk
noncomputable def GP.O6 (g:GP) (m se tk:Value):Array (Option Value):=Ah m .none .none false false true (.ref g.it) (.ref g.ig) se tk
theorem U4 {a b:Int} {v:Tok} {x y:Value} (h:AU (.int a u) x=AU (.int b v) y):a=b∧u=v:=
 Value.int.inj (List.cons.inj (congrArg Array.toList (Data.seq.inj (congrArg Obj.data h)).1)).1
noncomputable def GP.tok (g:GP):Prop:=∀ j k,j<g.N→k<g.N→g.u j≠0∧(g.u j=g.u k→g.a j=g.a k)
theorem HU : findIn (K0 P) (.ref 212) "__next__" = some (some (.ref 208)):=by kernel_rfl
theorem Qr : typeIn (K0 P) (.ref 208)=some (.type "function"):=by kernel_rfl
section
variable {w:Wd} {g:GP} {s₀ s s':Shared} {sl sl':Array (Option Value)} {o o':Obj} {A:Around} {E:Value→Shared→Prop} {n:Nat} {gr Fn:Addr} {cn:Int} {ct mt:Tok} {se tk:Value} {e p:Nat}
theorem GK {k:Heap} {e:Addr} {a:Option (Option Addr)} {Q:Bool→Shared→Prop} (X:Ep k s.heap (.type "StopIteration") e a) (h:Q true s):wpAny (MD w) A (isInstance (.ref e) (.type "StopIteration")) Q E s:=by
 refine Fs (X) fun z b vs y x z=>?_;exact wpAny_isInstance (AQ _ y x) owsi_facts.sub h
theorem C'.U5 {h:Array (Option Value)} (S:C' w g s₀ sl o s) (I:Am s.heap gr Fn C h) (m:Mv w s₀ [g.gb,g.it] s s') (x:C≠167):Am s'.heap gr Fn C h:=by
 refine Ap (I.d) fun y k=>?_;exact I.mv m (Wf (BY I.a S.gi.a (Y9 x)) (BY I.a S.i (S.oc▸Wn))) (Wf (BY k S.gi.a Rz) (BY k S.i (S.oc▸R4 (by decide))))
theorem Qt {Q:Option Value→Shared→Prop} (F:LY w g s₀) (j:g.tok) (S:C' w g s₀ (g.R3 (.int cn ct) se tk e) o s) (h:e<g.N) (c:BS w (n+2) A s) (I:Am s.heap gr Fn 212 (CV (.int cn mt) g.gb (.int (g.a e) (g.u e))))
  (k:∀ s',C' w g s₀ (g.O6 (.int cn ct) se tk) o s'→Mv w s₀ [g.gb,g.it] s s'→Q (some (.ref (g.T e))) s'):wpAny (MD w) A (pyNext (.ref gr)) Q E s:=by
 refine CK (S.dP F I) fun f d l=>?_;have y:=(j e e h h).1;refine DW (S.st.gh F.G) I HU Qr (wpAny_call (Qh (w:=V5 w g (g.R3 (.int cn ct) se tk e) o gr Fn (CV (.int cn mt) g.gb (.int (g.a e) (g.u e)))) (n:=n) f c.wit d l y y fun s' x=>?_));have x:=x.Bd;rw [←GI S.i]at x;refine Bt (S.next F S.om S.oc x) fun b m=>?_;exact k s' b m
noncomputable def GP.Qu (g:GP) (m se tk:Value) (q:Nat):Array (Option Value):=if q<g.N then g.R3 m se tk q else g.O6 m se tk
noncomputable def GP.oE (g:GP) (q:Nat):Obj:=if q<g.N then DX g.D (q+1)else R2 g.N
theorem LZ {Q:Option Value→Shared→Prop} (F:LY w g s₀) (L:g.tok) (S:C' w g s₀ (g.O6 (.int cn ct) se tk) (DX g.D p) s) (hp:p≤g.N) (H:e<g.N) (R:BS w (n+4) A s) (I:Am s.heap gr Fn 212 (CV (.int cn mt) g.gb (.int (g.a e) (g.u e))))
  (k1:∀ s',p<g.N→g.a p=g.a e→C' w g s₀ (g.O6 (.int cn ct) se tk) (DX g.D (p+1)) s'→Mv w s₀ [g.gb,g.it] s s'→Q (some (.ref (g.T p))) s')
  (V:∀ s',(p<g.N→g.a p≠g.a e)→C' w g s₀ (g.Qu (.int cn ct) se tk p) (g.oE p) s'→Mv w s₀ [g.gb,g.it] s s'→Q none s'):wpAny (MD w) A (pyNext (.ref gr)) Q E s:=by
 refine CK (S.dP F I) fun K B W=>?_;have U:=(L e e H H).1;have f:∀ T b u y,(T,AU (.int b u) y)∈(gr,AX 212 Fn (CV (.int cn mt) g.gb (.int (g.a e) (g.u e))))::g.TY→u≠0∧(g.u e=u→g.a e=b):=fun T b u y h=>by
  refine Or.elim (List.mem_cons.mp h) (fun h=>?_) (fun h=>?_)
  ·exact absurd (congrArg (·.2.cls) h) Rz
  ·refine AF (g.of h) fun k l h=>?_;refine W9 (U4 (congrArg Prod.snd h)) fun m=>?_;obtain rfl:=m;exact⟨(L k k l l).1,(L e k H l).2⟩
 refine Or.elim (Nat.lt_or_ge p g.N) (fun c=>?_) (fun O=>?_)
 ·have P:Fj (DX g.D p) g.Ia g.D (.item (.ref (g.T p))) (DX g.D (p+1)):=(Aj p rfl (g.get c) rfl)
  have r:∀ {T b u y},JG.item (.ref (g.T p)) = .item (.ref T)→(T,AU (.int b u) y)∈(gr,AX 212 Fn (CV (.int cn mt) g.gb (.int (g.a e) (g.u e))))::g.TY→T=g.T p∧g.a p=b∧g.u p=u:=fun {T b u y} d j=>by
   obtain rfl:=Value.ref.inj (JG.item.inj d);exact⟨rfl,U4 (Ai ((S.ts p c).symm.trans (K.led _ (B.ts _ j).1).1))⟩
  refine DW (S.st.gh F.G) I HU Qr (wpAny_call (LS (w:=V5 w g (g.O6 (.int cn ct) se tk) (DX g.D p) gr Fn (CV (.int cn mt) g.gb (.int (g.a e) (g.u e)))) (n:=n) K R.wit B W (.head _) U P
   (fun x J=>by refine Ar (Internal.JG.item.inj J) ?_;exact(Ml _ _ _ _ rfl (List.mem_cons_of_mem _ (g.mem c)))) f (fun T u y s' d j x=>?_) (fun T Z u y C s' l d j x X=>?_) (fun C s' d x X=>by injection d)))
  ·refine W' (r d j) fun Y o=>?_;exact k1 s' c Y (S.next F (BB _ _) rfl x.Bd).1 (S.next F (BB _ _) rfl x.Bd).2
  ·refine CK (r d j) fun v z q=>?_;obtain rfl:=v;obtain rfl:=z;obtain rfl:=q;refine GK X ?_;refine AB (if_pos rfl) ?_;have t:=S.next F (BB _ _) rfl x.Bd;refine V s' (fun o=>l) ?_ t.2;unfold GP.Qu GP.oE;refine AB (if_pos c) ?_;refine AB (if_pos c) ?_;exact t.1
 ·have M:p=g.N:=Nat.le_antisymm hp O;subst M;have P:Fj (DX g.D g.N) g.Ia g.D .stop (R2 g.N):=(AQ g.N rfl (.inr ⟨rfl,g.out (Nat.le_refl _)⟩))
  refine DW (S.st.gh F.G) I HU Qr (wpAny_call (LS (w:=V5 w g (g.O6 (.int cn ct) se tk) (DX g.D g.N) gr Fn (CV (.int cn mt) g.gb (.int (g.a e) (g.u e)))) (n:=n) K R.wit B W (.head _) U P
   (fun x J=>by injection J) f (fun T u y s' d j x=>by injection d) (fun T Z u y C s' l d j x X=>by injection d) (fun C s' d x X=>?_)))
  refine GK X ?_;refine AB (if_pos rfl) ?_;have x:=x.Bd;have eg:(put s g.it (R2 g.N)).heap.get? g.gb=some (AX 167 g.A9 (g.O6 (.int cn ct) se tk)):=((Heap.SameBut.update s.heap g.it _).2 _ (BY S.gi.a S.i Wn)).trans S.gi.a;replace x:=(GI eg).symm▸x;have t:=S.next F (BB _ _) rfl x;refine V s' (fun h=>absurd h (Nat.lt_irrefl _)) ?_ t.2;unfold GP.Qu GP.oE;refine AB (if_neg (Nat.lt_irrefl _)) ?_;refine AB (if_neg (Nat.lt_irrefl _)) ?_;exact t.1
end
noncomputable def GP.grp (g:GP) (e p:Nat):Array Value:=((List.range' e (p-e)).map fun k=>Value.ref (g.T k)).toArray
theorem GP.Qv (g:GP) {e p:Nat} (h:e≤p):g.grp e (p+1)=(g.grp e p).push (.ref (g.T p)):=by
 unfold GP.grp;refine AB (Nat.sub_add_comm h:p+1-e=(p-e)+1) ?_;refine AB List.range'_concat ?_;refine AB List.map_append ?_;refine AB ((congrArg (e + ·) (Nat.one_mul _)).trans (Nat.add_sub_of_le h):e+1*(p-e)=p) ?_;simp
theorem GP.IC (g:GP) {e p:Nat} : (g.grp e p).size=p-e:=by unfold GP.grp;simp
noncomputable abbrev EC (acc:Array Value) (c:Nat):Obj:={ cls:=.type "list",dict:=none,data:=.seq acc c,slots:=#[] }
section
variable {w:Wd} {g:GP} {s₀ s s':Shared} {sl sl':Array (Option Value)} {o o':Obj} {A:Around} {E:Value→Shared→Prop} {n:Nat} {gr Fn:Addr} {cn:Int} {ct mt:Tok} {se tk:Value} {e p q:Nat}
theorem Mv.drop {M : List Addr} (m : Mv w s₀ (S :: M) s s') (h : s.heap.get? S = none) : Mv w s₀ M s s' :=
  ⟨m.st, fun b o hb n d e => m.kp b o (fun hm => by rcases List.mem_cons.mp hm with rfl | hm; · injection (h.symm.trans e)
                                                    · exact hb hm) n d e, fun b o hb d e => m.dc b o (fun hm => by rcases List.mem_cons.mp hm with rfl | hm; · injection (h.symm.trans e)
                                                                                                                   · exact hb hm) d e, m.tk⟩
theorem C'.at (X:C' w g s₀ sl o s) (m:Mv w s₀ [S] s s') (h:s.heap.get? S=none∨∃ f c,s.heap.get? S=some (EC f c)∧S≠g.D):C' w g s₀ sl o s':=by
 have nm:∀ {b:Addr} {j:Obj},s.heap.get? b=some j→j.cls≠.type "list"∨b=g.D→b∉[S]:=fun {b j} e x=>by
  rw [List.mem_singleton];rintro rfl;refine Or.elim h (fun h=>?_) (fun y=>?_)
  ·injection (h.symm.trans e)
  ·refine CD (y) fun f c h v=>?_;refine Or.elim x (fun x=>?_) (fun x=>?_)
   ·obtain rfl:=(B6 h e);exact x rfl
   ·exact v x
 refine Ap (X.gi.d) fun B z=>?_;refine Ap (X.ig.d) fun u r=>?_;exact⟨m.st,X.gi.mv m (nm X.gi.a (.inl (by simp))) (nm z (.inl (not_eq_of_beq_eq_false rfl))),m.kp _ _ (nm X.i (.inl (by refine AB X.oc ?_;exact not_eq_of_beq_eq_false rfl))) X.om.nt X.om.d1 X.i,X.om,X.oc,m.kp _ _ (nm X.l (.inr rfl)) (Ab rfl) (AG rfl) X.l,
  X.ig.mv m (nm X.ig.a (.inl (by simp))) (nm r (.inl (not_eq_of_beq_eq_false rfl))),m.kp _ _ (nm X.IT (.inl (not_eq_of_beq_eq_false rfl))) (Ab rfl) (AG rfl) X.IT,fun k t=>m.tup (nm (X.ts k t) (.inl (not_eq_of_beq_eq_false rfl))) (X.ts k t)⟩
set_option maxHeartbeats 1000000 in
theorem V6 {res:Value} {R:Result→Shared→Prop} (gf:LY w g s₀) (ht:g.tok) (fS:s₀.heap.get? S=none) (fV:S≠g.D) (hN:g.N≤1000) (V:e<q) (U:q≤g.N) (Z:∀ k,e≤k→k<q→g.a k=g.a e) (K:q<g.N→g.a q≠g.a e)
  (sb:Shared) (k:∀ s' c,C' w g s₀ (g.Qu (.int cn ct) se tk q) (g.oE q) s'→s'.heap.get? S=some (EC (g.grp e q) c)→Mv w s₀ [S,g.gb,g.it] sb s'→R (.ok (.ret res)) s') :
  ∀ (m p:Nat) (s:Shared) (c:Nat),q-p=m→e≤p→p≤q→BS w (n+5) A s→((p=e∧C' w g s₀ (g.R3 (.int cn ct) se tk e) (DX g.D (e+1)) s)∨(e<p∧C' w g s₀ (g.O6 (.int cn ct) se tk) (DX g.D p) s))→
   Am s.heap gr Fn 212 (CV (.int cn mt) g.gb (.int (g.a e) (g.u e)))→s.heap.get? S=some (EC (g.grp e p) c)→Mv w s₀ [S,g.gb,g.it] sb s→
   codeAny (MD w) A (.builtin "list.extend.loop" ⟨[.ref S,.ref gr,res],[]⟩) R s:=by
 have P:∀ {s s':Shared},Mv w s₀ [g.gb,g.it] s s'→Mv w s₀ [S,g.gb,g.it] s s':=fun m=>m.mono fun b L=>List.mem_cons_of_mem _ L;have dQ:∀ {s s':Shared} {sl o m},BS w m A s→C' w g s₀ sl o s→Mv w s₀ [g.gb,g.it] s s'→BS w m A s':=fun J X m=>J.mv m fun b L ob e d=>by
  simp only [List.mem_cons,List.not_mem_nil,or_false]at L;refine Or.elim L (fun a0=>?_) (fun aq=>?_)
  ·obtain rfl:=a0;obtain rfl:=(B6 X.gi.a e);exact(AH _ _ _).d1 d
  ·obtain rfl:=aq;obtain rfl:=(B6 X.i e);exact X.om.d1 d
 have M:∀ (p:Nat) (s:Shared) (c:Nat) (s₁:Shared),e≤p→p<q→BS w (n+5) A s₁→C' w g s₀ (g.O6 (.int cn ct) se tk) (DX g.D (p+1)) s₁→Am s₁.heap gr Fn 212 (CV (.int cn mt) g.gb (.int (g.a e) (g.u e)))→s₁.heap.get? S=some (EC (g.grp e p) c)→Mv w s₀ [S,g.gb,g.it] sb s₁→
   (∀ x O,BS w (n+5) A x→C' w g s₀ (g.O6 (.int cn ct) se tk) (DX g.D (p+1)) x→Am x.heap gr Fn 212 (CV (.int cn mt) g.gb (.int (g.a e) (g.u e)))→x.heap.get? S=some (EC (g.grp e (p+1)) O)→Mv w s₀ [S,g.gb,g.it] sb x→codeAny (MD w) A (.builtin "list.extend.loop" ⟨[.ref S,.ref gr,res],[]⟩) R x)→
   wpAny (MD w) A.in1 (updateSeq S (·.push (.ref (g.T p)))>>=fun E=>again (.builtin "list.extend.loop" ⟨[.ref S,.ref gr,res],[]⟩)) (fun fin s'=>match fin with | .done f=>R (.ok f) s' | .again O=>O.quiet=true∧codeAny (MD w) A O R s') (fun e s'=>R (.error e) s') s₁:=by
  intro p s c s₁ h1 h2 J X I y W a1
  have dR:p-e≤1000:=AJ (Nat.sub_le _ _) (AJ (Nat.le_of_lt h2) (AJ U hN));refine AD (wpAny_updateSeq y rfl (AM ⟨plainId_quiet F.plain_extend_loop _,?_⟩) (by refine AB g.IC ?_;exact D3 dR) (by show((g.grp e p).push _).size≤sizeLine+1;refine AB (Array.size_push ..) ?_;refine AB g.IC ?_;exact Nat.succ_le_succ (D3 dR)));have mS:Mv w s₀ [S] s₁ { s₁ with heap:=s₁.heap.update S (Obj.mapSeq (·.push (.ref (g.T p)))),toks:=s₁.toks }:=Mv.upd gf.G X.st D1 fS y (fun vs q t e=>by injection e) (Heap.SameBut.update s₁.heap S (Obj.mapSeq (·.push (.ref (g.T p)))));refine Ap (I.d) fun sd ed=>?_;refine a1 _ _ (J.mv mS fun b L o e d=>by replace e:=(List.mem_singleton.mp L)▸e;replace e:=y.symm.trans e;obtain rfl:=(Ai e);exact AG rfl d) (X.at mS (.inr (Dj _ _ y fV))) (I.mv mS (by simpa using BY I.a y (by simp)) (by simpa using BY ed y (by simp))) (by refine AB (g.Qv h1) ?_;exact(Heap.get?_update_self (Obj.mapSeq (·.push (.ref (g.T p)))) y rfl)) (W.trans (mS.mono fun b L=>by refine AB (List.mem_singleton.mp L) ?_;exact D1))
 have l:∀ {s s':Shared} {sl o a2 c},C' w g s₀ sl o s→Mv w s₀ [g.gb,g.it] s s'→s.heap.get? S=some (EC a2 c)→s'.heap.get? S=some (EC a2 c):=fun X m y=>m.kp S _ (by
  simp only [List.mem_cons,List.not_mem_nil,or_false,not_or];exact⟨BY y X.gi.a (by simp),BY y X.i (by refine AB X.oc ?_;exact not_eq_of_beq_eq_false rfl)⟩) (Ab rfl) (AG rfl) y
 intro m
 induction m with
 |zero=>
  intro p s c hk h1 h2 J X I y W;have fW:p=q:=cG h2 hk;subst fW;rcases X with ⟨h,_⟩ | ⟨_,X⟩
  ·exact absurd h (Nat.ne_of_gt V)
  refine codeAny_builtin F.entry_extend_loop ?_;refine AB (Around.under_plainId F.plain_extend_loop _) ?_;show wpAny _ A.in1 (pyNext (.ref gr)>>=_) _ _ s;refine AD (LZ (n:=n) gf ht X U (Nat.lt_of_lt_of_le V U) J.in1 I (fun s' h3 h4 E E=>absurd h4 (K h3)) fun s' h3 X' m'=>?_);exact AM (k s' c X' (l X m' y) (W.trans (P m')))
 |succ m ih=>
  intro p s c hk h1 h2 J X I y W;have j:p<q:=Nat.lt_of_sub_eq_succ hk;refine codeAny_builtin F.entry_extend_loop ?_;refine AB (Around.under_plainId F.plain_extend_loop _) ?_;show wpAny _ A.in1 (pyNext (.ref gr)>>=_) _ _ s;refine Or.elim X (fun B=>?_) (fun Q=>?_)
  ·refine Bt (B) fun Y X=>?_;clear k B K;obtain rfl:=Y;refine AD (Qt (n:=n+2) gf ht X (Nat.lt_of_lt_of_le j U) J.in1 I fun s' X' m'=>?_);exact M p s c s' (Nat.le_refl _) j (dQ J X m') X' (X.U5 I m' (Nat.ne_of_beq_eq_false rfl)) (l X m' y) (W.trans (P m')) fun x O z C H r v=>ih (p+1) x O (ZA hk) (Nat.le_succ _) j z (.inr ⟨Nat.lt_succ_self _,C⟩) H r v
  ·refine Bt (Q) fun h3 X=>?_;refine AD (LZ (n:=n) gf ht X (AJ h2 U) (AJ V U) J.in1 I (fun s' h4 h5 X' m'=>?_) fun s' h4 E E=>absurd (Z p h1 j) (h4 (AJ j U)));exact M p s c s' h1 j (dQ J X m') X' (X.U5 I m' (Nat.ne_of_beq_eq_false rfl)) (l X m' y) (W.trans (P m')) fun x O z C H r v=>ih (p+1) x O (ZA hk) (Nat.le_succ_of_le (by assumption)) j z (.inr ⟨by exact Nat.succ_le_succ (by assumption),C⟩) H r v
end
theorem TZ : findIn (K0 P) (.ref 212) "__iter__" = some (some (.ref 201)):=by kernel_rfl
theorem YD : typeIn (K0 P) (.ref 201)=some (.type "function"):=by kernel_rfl
theorem Qw : findIn (K0 P) (.ref 212) "__len__" = some none:=by kernel_rfl
theorem Od : findIn (K0 P) (.ref 212) "__length_hint__" = some none:=by kernel_rfl
section
variable {w:Wd} {g:GP} {s₀ s s':Shared} {A:Around} {E:Value→Shared→Prop} {n:Nat} {gr Fn:Addr} {cn:Int} {ct mt:Tok} {se tk:Value} {e q:Nat}
theorem Ta {y:Array (Option Value)} (G:GH w s.heap) (a:BS w (n+1) A s) (I:Am s.heap gr Fn 212 y) (k:∀ s',Step w s s'→Q (.ref gr) s'):wpAny (MD w) A (pyIter (.ref gr)) Q E s:=
 Gn G I TZ YD HU (Gm (o:=PA) (fd:=fdOf PA) G a rfl rfl rfl (fun S=>rfl) (fun h G=>codeRec_of G.kin (by kernel_rfl)) rfl rfl rfl rfl rfl rfl rfl rfl fun s' x=>(B2 rfl x (k s' x)))
set_option maxHeartbeats 1000000 in
theorem Jz (C:LY w g s₀) (ht:g.tok) (hN:g.N≤1000) (a1:e<q) (hq:q≤g.N) (U:∀ k,e≤k→k<q→g.a k=g.a e) (V:q<g.N→g.a q≠g.a e) (X:C' w g s₀ (g.R3 (.int cn ct) se tk e) (DX g.D (e+1)) s) (ok:BS w (n+7) A s) (I:Am s.heap gr Fn 212 (CV (.int cn mt) g.gb (.int (g.a e) (g.u e))))
  (k:∀ S s' c,C' w g s₀ (g.Qu (.int cn ct) se tk q) (g.oE q) s'→s'.heap.get? S=some (EC (g.grp e q) c)→s.heap.get? S=none→Mv w s₀ [g.gb,g.it] s s'→Q (.ref S) s') :
  wpAny (MD w) A (call (.type "list") [.ref gr]) Q E s:=by
 have lt:∀ {b o},s.heap.get? b=some o→b≠s.heap.objs.size:=fun e=>Nat.ne_of_lt (Heap.lt_size e);have i:s.heap.get? s.heap.objs.size=none:=fresh_at _;have fS:s₀.heap.get? s.heap.objs.size=none:=X.st.gone C.G i;refine callType_codes (Q₁:=fun obj s₁=>obj = .ref s.heap.objs.size∧s₁={ s with heap:=s.heap.push { cls:=.type "list",data:=.seq #[] } }) F.called_list (F.typeCall_list_1 _) F.entry_list_init
  (code_list_new _ ⟨rfl,rfl⟩) fun obj s₁ Jf=>?_
 refine W9 (Jf) fun a0=>?_;refine AB a0 ?_;generalize fX:s.heap.objs.size=S at *;have hS:(s.heap.push { cls:=.type "list",data:=.seq #[] }).get? S=some (EC #[] 0):=by refine Ar fX ?_;exact BD _ rfl
 refine(B2 ⟨_,hS,rfl⟩ (F.args_list_init_2 _ _) ?_)
 have K:Mv w s₀ [S] s { s with heap:=s.heap.push { cls:=.type "list",data:=.seq #[] },toks:=s.toks }:=Mv.step C.G X.st (Step.push s _);have Z:Mv w s₀ [S] { s with heap:=s.heap.push { cls:=.type "list",data:=.seq #[] },toks:=s.toks } { s with heap:=(s.heap.push { cls:=.type "list",data:=.seq #[] }).update S (Obj.mapSeq (fun _=>(#[]:Array Value))),toks:=s.toks }:=
  Mv.upd (s:={ s with heap:=s.heap.push { cls:=.type "list",data:=.seq #[] },toks:=s.toks }) C.G K.st D1 fS hS (fun vs q t e=>by injection e) (Heap.SameBut.update ..)
 refine AD ?_;refine AD (wpAny_seqItems hS rfl (AM ?_));refine AD (wpAny_updateSeq hS rfl ?_);refine AD (wpAny_letGo ?_);have p:=K.trans Z;obtain⟨x,R⟩:∃ x,x=({ s with heap:=(s.heap.push { cls:=.type "list",data:=.seq #[] }).update S (Obj.mapSeq (fun _=>(#[]:Array Value))),toks:=s.toks } : Shared):=⟨_,rfl⟩
 rw [←R]at p;have M:x.heap.get? S=some (EC #[] 0):=by refine AB R ?_;exact(Heap.get?_update_self (Obj.mapSeq (fun _=>(#[]:Array Value))) hS rfl)
 have f:Am x.heap gr Fn 212 (CV (.int cn mt) g.gb (.int (g.a e) (g.u e))):=by
  refine Ap (I.d) fun sd ed=>?_;exact I.mv p (by simpa using lt I.a) (notIn_one (lt ed))
 have v:=X.at p (.inl i);have z:BS w (n+7) A x:=ok.mv p fun b Y o e d=>by rw [List.mem_singleton.mp Y,i]at e;injection e
 refine Ar R ?_;have T:gr≠S:=BY f.a M (by simp);have h1:Builtin.List.listSameRef (.ref S) (.ref gr)=false:=by simp [Builtin.List.listSameRef,T.symm]
 refine AF (f.at (name:="")) fun od IA _=>?_;refine AD (IA.type.here ?_);have h2:(Value.ref 212==Value.type "list")=false:=rfl;have h3:(Value.ref 212==Value.type "tuple")=false:=rfl;simp only [h1,h2,h3,Bool.or_false,Bool.false_eq_true,if_false];have m:=v.st.gh C.G;refine AD (Ta (n:=n+4) m z.in1.in1 f fun h y=>?_);have m3:Mv w s₀ [S] x h:=Mv.step C.G v.st y;have r:=f.step y m;have j:=y.get m M (Ab rfl) (AG rfl);have O:S≠g.D:=by rintro rfl;injection (X.l.symm.trans i)
 have B:=v.at m3 (.inr (Dj _ _ M O));have H:=B.st.gh C.G;refine AD (wpAny_holding ?_);refine AF (r.at (name:="")) fun iA dT _=>?_;refine AD (AD (dT.type.here ((looks_findIn H.kin Qw).here ?_)));refine AD (AD (dT.type.here ((looks_findIn H.kin Od).here ?_)));refine AM ?_;refine AD (wpAny_rule ?_);refine AD ?_;refine AD (wpAny_updateSeq j rfl ?_);have P:=Heap.get?_update_self (Obj.mapSeq (·.push Value.none)) j rfl;refine wpAny_updateSeq P rfl ?_;have fY:=Heap.get?_update_self (Obj.mapSeq (·.pop)) P rfl;have J:Mv w s₀ [S] h { h with heap:=h.heap.update S (Obj.mapSeq (·.push Value.none)),toks:=h.toks }:=Mv.upd C.G B.st D1 fS j (fun vs q t e=>by injection e) (Heap.SameBut.update ..);have ar:Mv w s₀ [S] { h with heap:=h.heap.update S (Obj.mapSeq (·.push Value.none)),toks:=h.toks } { h with heap:=(h.heap.update S (Obj.mapSeq (·.push Value.none))).update S (Obj.mapSeq (·.pop)),toks:=h.toks }:=
  Mv.upd (s:={ h with heap:=h.heap.update S (Obj.mapSeq (·.push Value.none)),toks:=h.toks }) C.G J.st D1 fS P (fun vs q t e=>by injection e) (Heap.SameBut.update ..)
 have m5:=J.trans ar;have W:Am ((h.heap.update S (Obj.mapSeq (·.push Value.none))).update S (Obj.mapSeq (·.pop))) gr Fn 212 (CV (.int cn mt) g.gb (.int (g.a e) (g.u e))):=by
  refine Ap (r.d) fun sd ed=>?_;exact r.mv m5 (notIn_one T) (by simpa using BY ed j (by simp))
 have L:=(z.step y).mv m5 fun b Y o e d=>by rw [List.mem_singleton.mp Y,j]at e;obtain rfl:=(Ai e);exact AG rfl d
 have au:Mv w s₀ [S,g.gb,g.it] s { h with heap:=(h.heap.update S (Obj.mapSeq (·.push Value.none))).update S (Obj.mapSeq (·.pop)),toks:=h.toks }:=(p.trans (m3.trans m5)).mono fun b Y=>by refine AB (List.mem_singleton.mp Y) ?_;exact D1
 have fZ:g.grp e e = #[]:=by unfold GP.grp;simp
 refine AM ⟨plainId_quiet F.plain_extend_loop _,V6 (A:=A.in1) (n:=n+1) C ht fS O hN a1 hq U V s (fun s' c X' fe m'=>⟨rfl,k S s' c X' fe i (m'.drop i)⟩) _ e _ _ rfl (Nat.le_refl _) (Nat.le_of_lt a1) L.in1 (.inl ⟨rfl,(B.at m5 (.inr (Dj _ _ j O)))⟩) W (by refine AB fZ ?_;exact fY) au⟩
end
theorem HW : findIn (K0 P) (.ref 167) "__next__" = some (some (.ref 163)):=by kernel_rfl
theorem Qx : typeIn (K0 P) (.ref 163)=some (.type "function"):=by kernel_rfl
theorem Tb : findIn (K0 P) (.ref 167) "__iter__" = some (some (.ref 149)):=by kernel_rfl
theorem YE : typeIn (K0 P) (.ref 149)=some (.type "function"):=by kernel_rfl
noncomputable def GP.Yx (g:GP) (m se:Value):Array (Option Value):=Ah m .none .none false false false (.ref g.it) (.ref g.ig) se .none
section
variable {w:Wd} {g:GP} {s₀ s s':Shared} {A:Around} {E:Value→Shared→Prop} {n:Nat} {cg tk:Value} {se:Int} {st:Tok} {e j:Nat} {o:Obj} {Q:Option Value→Shared→Prop}
theorem Tc {b:Array (Option Value)} {y:Addr} {Q:Value→Shared→Prop} (G:GH w s.heap) (c:BS w (n+1) A s) (I:Am s.heap a y 167 b) (k:∀ s',Step w s s'→Q (.ref a) s'):wpAny (MD w) A (pyIter (.ref a)) Q E s:=
 Gn G I Tb YE HW (Gm (o:=O9) (fd:=fdOf O9) G c rfl rfl rfl (fun S=>rfl) (fun h G=>codeRec_of G.kin (by kernel_rfl)) rfl rfl rfl rfl rfl rfl rfl rfl fun s' x=>(B2 rfl x (k s' x)))
noncomputable abbrev U6 (w:Wd) (g:GP) (s₀ s:Shared) (se:Int) (e:Nat) (Q:Option Value→Shared→Prop):Prop:=
 ∀ P gr Fn m s',C' w g s₀ (g.R3 (.int (se+1) m) (.int (se+1) m) (.int (g.a e) (g.u e)) e) (DX g.D (e+1)) s'→Mv w s₀ [g.gb,g.it] s s'→s'.heap.get? P=some (AU (.int (g.a e) (g.u e)) (.ref gr))→Am s'.heap gr Fn 212 (CV (.int (se+1) m) g.gb (.int (g.a e) (g.u e)))→
  s.heap.get? P=none→s.heap.get? gr=none→s.heap.get? Fn=none→Q (some (.ref P)) s'
theorem Qy (b:LY w g s₀) (X:C' w g s₀ (g.Yx cg (.int se st)) (DX g.D 0) s) (c:0<g.N) (H:BS w (n+4) A s) (k:U6 w g s₀ s se 0 Q):wpAny (MD w) A (pyNext (.ref g.gb)) Q E s:=by
 obtain⟨f,d⟩:=X.gw b;have I:Fj (DX g.D 0) g.Ia g.D (.item (.ref (g.T 0))) (DX g.D 1):=(Aj 0 rfl (g.get c) rfl)
 refine DW (X.st.gh b.G) X.gi HW Qx (wpAny_call (LX (w:=GW w g (g.Yx cg (.int se st)) (DX g.D 0)) (n:=n) f H.wit d I (fun x t=>by obtain rfl:=(Internal.JG.item.inj t);exact(Ml _ _ _ _ rfl (g.mem c))) (fun j=>rfl)
  (fun T L u y P p l m s' a r x v J K C F j=>?_) (fun O M s' a x X=>by injection a)))
 have B:T=g.T 0:=by injection a with h;injection h with h;exact h.symm
 clear a;subst B;have q:=(f.led _ (d.ts _ r).1).1;replace q:=(X.ts 0 c)▸q;have i:=congrArg (fun o=>o.map Obj.data) q;simp at i;obtain⟨⟨rfl,rfl⟩,_⟩:=i;obtain⟨z,m'⟩:=X.next b (BB _ _) rfl x.Bd;exact k P p l m s' z m' v J K C F
theorem Qz (h:LY w g s₀) (d:g.tok) (X:C' w g s₀ (g.R3 cg (.int se st) (.int (g.a j) (g.u j)) e) (DX g.D (e+1)) s) (b:e<g.N) (c:j<g.N) (y:g.a j≠g.a e) (l:BS w (n+3) A s) (k:U6 w g s₀ s se e Q):wpAny (MD w) A (pyNext (.ref g.gb)) Q E s:=by
 refine Bt (X.gw h) fun v p=>?_;refine DW (X.st.gh h.G) X.gi HW Qx (wpAny_call (Qq (w:=GW w g (g.R3 cg (.int se st) (.int (g.a j) (g.u j)) e) (DX g.D (e+1))) (n:=n) v l.wit p.g h.bg y (d j j c c).1 (d e e b b).1 (d j e c b).2
  (fun P r q m s' x t f B C F o=>?_)))
 have x:=x.Bd;rw [←GI X.i]at x;refine Bt (X.next h X.om X.oc x) fun z m'=>?_;exact k P r q m s' z m' t f B C F
theorem Q0 (c:LY w g s₀) (X:C' w g s₀ (g.O6 cg (.int se st) tk) (R2 g.N) s) (r:BS w (n+4) A s) (k:∀ s',Mv w s₀ [g.gb,g.it] s s'→Q none s'):wpAny (MD w) A (pyNext (.ref g.gb)) Q E s:=by
 refine Bt (X.gw c) fun q f=>?_;have t:Fj (R2 g.N) g.Ia g.D .stop (R2 g.N):=(AQ g.N rfl (.inl rfl))
 refine DW (X.st.gh c.G) X.gi HW Qx (wpAny_call (LX (w:=GW w g (g.O6 cg (.int se st) tk) (R2 g.N)) (n:=n) q r.wit f t (fun x l=>by injection l) (fun h=>absurd rfl h)
  (fun T v u y P B z m s' d F x H L M I J o=>by injection d) (fun K C s' d x p=>?_)))
 refine GK p ?_;refine AB (if_pos rfl) ?_;have b:g.gb≠g.it:=BY X.gi.a X.i (by simp);have x:=x.Bd;rw [GJ b]at x;exact k s' (X.next c (BB _ _) rfl x).2
end
theorem BA.kp (r:BA h pv v) (k:∀ b o,¬Af o→(∀ l,o.data≠.cell l)→h.get? b=some o→h'.get? b=some o):BA h' pv v:=by
 have ks:∀ {b o xs m},h.get? b=some o→o.data = .seq xs m→h'.get? b=some o:=fun e d=>k _ _ (AG d) (fun l q=>by injection (d.symm.trans q)) e
 induction pv with
 |fv=>exact r
 |str=>exact r
 |raw=>exact r
 |list xs=>refine AW (r) fun b vs y x f=>?_;obtain rfl:=y;refine B0 (x) fun o g c m d=>?_;exact(Bl b vs rfl ⟨o,ks g d,c,m,d⟩ f)
 |BN xs=>refine AW (r) fun b vs j i f=>?_;obtain rfl:=j;refine B0 (i) fun o g c m d=>?_;exact(Bl b vs rfl ⟨o,ks g d,c,m,d⟩ f)
 |line a b=>obtain⟨b,o,t,u,m,rfl,g,c,d,r⟩:=r;exact(Dk b o t u m rfl (ks g r) c d r)
noncomputable def PV.plain:PV→Prop
 |.fv _=>True
 |.raw _=>True
 |_=>False
theorem Oe (p:pv.plain) (r:BA h pv v) (a:Addr):pv.Fy=true∨v≠.ref a:=by
 induction pv with
 |raw=>exact .inl rfl
 |fv f=>
  refine .inr ?_;rintro rfl
  induction f with
  |none=>injection r
  |bool=>injection r
  |int=>refine Ap (r) fun t h=>?_;injection h
  |AS=>refine Ap (r) fun t h=>?_;injection h
 |list=>exact p.elim
 |BN=>exact p.elim
 |line=>exact p.elim
 |str=>exact p.elim
section
variable {w:Wd} {names:BC} {oc:List Str} {n:Nat} {A:Around} {env:Env} {s₀ s₁ s s':Shared} {own:Option Str} {pe pe':PE}
theorem ED {P:Around} {x:Str} {Q:Unit→Shared→Prop} (F:Fm w names oc n A env s₀ own s pe) (H:names.lookup x=some .local∨(x∈oc∧names.lookup x=some .cell)) (r:BA s.heap pv v) (N:pv.plain) (G:own≠some x)
  (h:∀ s',Fm w names oc n A env s₀ own s' (pe.set x pv)→(∀ b o,¬Af o→(∀ I,o.data≠.cell I)→s.heap.get? b=some o→s'.heap.get? b=some o)→Q () s'):wpAny M P (storeName env x v) Q E s:=by
 refine B4 F H r none (fun Z h=>by injection h) fun s' g t J Z=>h s' ⟨g.cx,g.g0,g.st,g.ns,g.lf,g.lb,g.HL,fun y D=>?_⟩ t;refine B9 (F.ow y D) fun a xs vs p q l f R u=>?_;have m:y≠x:=fun e=>G (e▸D);refine Ap (l) fun O K=>?_;refine(C3 a xs vs (by simp [PE.set,m,p]) (J y _ m q) ⟨O,t _ _ (AG rfl) (fun I d=>by injection d) K⟩ f R (fun z B L e=>?_))
 by_cases c:z=x
 ·clear G h m H;subst c;refine AF (g.cx.vars z B e) fun C i j=>?_;have:pv=B:=by simpa [PE.set]using e
  subst this;exact(Aj C i j (Oe N j a))
 ·refine AY (u z B L (by simpa [PE.set,c]using e)) fun C i j k=>?_;exact(Aj C (J z _ c i) (j.kp t) k)
theorem Fo {x:Str} (f:Ev w names n pe e pv) (d:pv.plain) (b:own≠some x) (c:names.lookup x=some .local∨(x∈oc∧names.lookup x=some .cell))
  (i:autoParam (∀ env,D7 names env→swapsWith e (some (.Name x px)) pos.line env=pure false) Me):N1 w names oc n own pe (.Assign [.Name x px] e pos) own (pe.set x pv):=
 fun A env s₀ s Q E F k=>wpAny_Assign_Name (f A env s _ E F.cx fun v s₁ a y=>ED (F.step a) c y d b fun g h z=>k g h) (i env F.cx.eo)
theorem La {Q:Unit→Shared→Prop} {x y:Str} {D:Pos} {T:Addr} {t:Value} {p1 p2:PV} (F:Fm w names oc n A env s₀ own s pe) (I:s.heap.get? T=some (AU v t))
  (H:names.lookup x=some .local) (G:names.lookup y=some .local) (B:∀ h,BA h p1 v) (J:∀ h,BA h p2 t) (q:p1.plain) (l:p2.plain) (m:own≠some x) (p:own≠some y)
  (k:∀ s',Fm w names oc n A env s₀ own s' ((pe.set x p1).set y p2)→(∀ b o,¬Af o→(∀ C,o.data≠.cell C)→s.heap.get? b=some o→s'.heap.get? b=some o)→Q () s') :
  wpAny (MD w) A (assign (.Tuple [.Name x px,.Name y py] kk D) env (.ref T)) Q E s:=by
 refine assign_Tuple_tuple F.cx.ok.h (is_tup I) rfl rfl fun h' r=>?_;have z:Step w s { s with heap:=h',toks:=s.toks }:=Step.of_keeps fun b o e=>r b o (Nat.ne_of_lt (Heap.lt_size e)) e;refine assignInOrder_cons (assign_Name (ED (F.step z) (.inl H) (B _) q m fun u j a=>?_));refine assignInOrder_cons (assign_Name (ED j (.inl G) (J _) l p fun i f g=>?_));exact assignInOrder_nil (k i f fun b o d c e=>g b o d c (a b o d c (r b o (Nat.ne_of_lt (Heap.lt_size e)) e)))
theorem Fm.mv {M:List Addr} (F:Fm w names oc n A env s₀ own s pe) (m:Mv w s₀ M s s') (R:∀ b∈M,∀ o,s.heap.get? b=some o→¬Af o∧(∀ v,o.data≠.cell v)∧∀ xs k,o.data≠.seq xs k):Fm w names oc n A env s₀ own s' pe:=by
 have B:∀ {b o},(Af o∨(∃ v,o.data = .cell v)∨∃ xs k,o.data = .seq xs k)→s.heap.get? b=some o→b∉M:=fun {b o} h e O=>by
  refine CK (R b O o e) fun U T X=>?_;refine Or.elim h (fun h=>?_) (fun L=>Or.elim L (fun I=>?_) (fun J=>?_))
  ·exact U h
  ·refine Ap (I) fun v h=>?_;exact T v h
  ·refine Bj (J) fun xs k h=>?_;exact X xs k h
 have hd:∀ {b o},Af o→s.heap.get? b=some o→∃ Q,s'.heap.get? b=some { o with slots:=Q }:=fun d e=>m.dc _ _ (B (.inl d) e) d e;have D:∀ {a N},s.heap.Ns a N→s'.heap.Ns a N:=fun G=>BR (G) fun o es P e d r=>Ap (hd (DB es P d) e) fun Q W=>(FA _ es P W d r)
 have g:∀ {c v},s.heap.IsCell c v→s'.heap.IsCell c v:=fun {c v} z=>AF z fun o e d=>(AQ o (m.kp _ _ (B (.inr (.inl ⟨v,d⟩)) e) (fun H=>Ap (H) fun vs q=>by rw [q]at d;injection d) (fun K=>Bj (K) fun _ _ q=>by injection (q.symm.trans d)) e) d)
 have x:∀ {y v},AZ s.heap env y v→AZ s'.heap env y v:=fun k=>k.Zy D g;have t:∀ {b o xs k},o.data = .seq xs k→s.heap.get? b=some o→s'.heap.get? b=some o:=fun d e=>m.kp _ _ (B (.inr (.inr (DB _ _ d))) e) (Ab d) (AG d) e;have l:∀ {pv v},BA s.heap pv v→BA s'.heap pv v:=fun r=>r.Zz t;refine⟨⟨F.cx.eo,m.st.gh F.g0,F.cx.ok.mv m fun b O o e=>(R b O o e).1,fun y py E=>?_⟩,F.g0,m.st,?_,F.lf,F.lb,fun y E=>?_,fun y E=>?_⟩
 ·refine AF (F.cx.vars y py E) fun v i j=>?_;exact(AQ v (x i) (l j))
 ·refine Ap (F.ns) fun N h=>?_;exact⟨N,D h⟩
 ·refine AW (F.HL y E) fun c v i j k=>?_;exact(Bl c v i (g j) k)
 ·refine B9 (F.ow y E) fun a xs vs p q C r f u=>?_;refine Ap (C) fun S V=>?_;exact(C3 a xs vs p (x q) ⟨S,t rfl V⟩ r f (fun z Z Y e=>AY (u z Z Y e) fun v i j k=>⟨v,x i,l j,k⟩))
theorem AZ.fn {x:Str} {C:Value} (a:AZ h env x v) (b:AZ h env x C):v=C:=by
 have z:∀ {c u B},h.IsCell c (some u)→h.IsCell c (some B)→u=B:=fun z z'=>AF z fun o e d=>AF z' fun o' t q=>by obtain rfl:=(B6 e t);obtain rfl:=(Ai ((PySem.Data.cell.inj ((d.symm.trans q)))));rfl
 refine a.el (fun hk m k i=>b.el (fun w m' p y=>?_) (fun q=>by injection (Ai (hk.symm.trans q))) fun q=>by injection (Ai (hk.symm.trans q))) (fun hk c i j=>b.el (fun q=>by injection (Ai (hk.symm.trans q))) (fun w E y r=>?_) fun q=>by injection (Ai (hk.symm.trans q))) fun hk c i j=>b.el (fun q=>by injection (Ai (hk.symm.trans q))) (fun q=>by injection (Ai (hk.symm.trans q))) fun w E y r=>?_
 ·obtain⟨o,es,H,e,d,_,f⟩:=k;obtain⟨o',F,G,t,q,_,D⟩:=p;obtain rfl:=(B6 e t);refine Bt (PySem.Data.dict.inj ((d.symm.trans q))) fun l g=>?_;clear q;obtain rfl:=l;obtain rfl:=g;replace i:=(f x).trans i;replace i:=(D x).symm.trans i;replace i:=y.symm.trans i;exact(Ai i).symm
 ·obtain rfl:=(B6 i y);exact z j r
 ·obtain rfl:=(B6 i y);exact z j r
theorem Fm.seg (F:Fm w names oc n A env s₀ own s pe) (L:List (Addr×Obj)) (D:List Addr) (M:∀ p∈L,s.heap.get? p.1=some p.2∧p.2.cls≠.none∧¬Af p.2∧(∀ v,p.2.data≠.cell v)∧∀ x,own=some x→¬AZ s.heap env x (.ref p.1))
  (R:∀ d∈D,(∃ G,s.heap.get? d=some { cls:=.type "dict",data:=.dict #[],slots:=G })∧d≠env.locals):∃ s₁,Step w s₀ s₁∧GH w s₁.heap∧Fm (w.wit L D) names oc n A env s₁ own s pe∧(∀ b,s.heap.get? b=none→s₁.heap.get? b=none):=by
 refine AY (F.rebase) fun Z Q H I=>?_;refine(GZ (FZ s Z) Q H.g0 (H.wit (fun p P=>?_) (fun d hd=>?_)) (fun b K=>?_))
 ·refine PJ (M p P) fun e c d J O=>?_;refine(B2 ((Bv ?_).trans e) c d)
  cases h:Z p.1 with
  |false=>rfl
  |true=>
   refine Or.elim (I _ h) (fun t=>?_) (fun r=>Or.elim r (fun i=>?_) (fun j=>?_))
   ·refine AY (t) fun o z u Y=>?_;obtain rfl:=(B6 e z);exact absurd u d
   ·refine CD (i) fun o v z u=>?_;obtain rfl:=(B6 e z);exact absurd u (J v)
   ·refine AF (j) fun x E C=>?_;exact absurd C (O x E)
 ·refine Bt (R d hd) fun y B=>?_;refine Ap (y) fun G e=>?_;refine⟨G,(Bv ?_).trans e⟩
  cases h:Z d with
  |false=>rfl
  |true=>
   refine Or.elim (I _ h) (fun l=>?_) (fun k=>Or.elim k (fun m=>?_) (fun g=>?_))
   ·refine AY (l) fun o z u h=>?_;exact absurd h B
   ·refine CD (m) fun o v z u=>?_;obtain rfl:=(B6 e z);injection u
   ·refine AF (g) fun x E C=>?_;refine CX (F.ow x E) fun a xs vs p q f Y=>?_;refine Ap (f) fun S N=>?_;clear hd B y k g;obtain rfl:=(PySem.Value.ref.inj (q.fn C))
    rw [N]at e;injection e with e;injection e with e;simp at e
 ·cases h:Z b with
  |false=>exact(Bv h).trans K
  |true=>exact Ey h
end
section
variable {w:Wd} {names:BC} {oc:List Str} {n:Nat} {own:Option Str} {pe pe':PE}
theorem Td {k:Nat} {x:Int}
  (hl:s.heap.get? l=some (EC items k)) (e : -(2^63:Int)≤x) (y:x<2^63) (hsz:items.size*x.toNat≤2^24)
  (h:Q (.ref s.heap.objs.size) { s with heap:=s.heap.push { cls:=.type "list",data:=.seq (List.foldl (fun a g=>a++g) #[] (List.replicate (if items.isEmpty=true then 0 else x.toNat) items)) } }) :
  wpAny (MD w) A (binaryOp .Mult (.ref l) (.int x u)) Q E s:=
 wpAny_binaryOp_repeat_ref (T:="list") (U:="int") (by rfl) (AQ _ hl rfl) (fun s'=>typeIs_int s' x u) noFill_list_mul F.fills_int_mul F.slot_int_rmul repeat_list F.slot_int_index.lookup
  (call_meets F.slot_int_rmul (typeIs_int s x u) F.entry_int_rmul (F.args_int_rmul_2 _ _) (int___rmul___int_list x u l items k)
   ⟨hl,rfl,(AQ _ hl rfl),call_meets F.slot_list_mul (AQ _ hl rfl) F.entry_list_mul (F.args_list_mul_2 _ _)
    (AutoListH.list___mul___list_int_3 l items k x u (by simp [Builtin.List.listFitsIndex];exact And.symm ⟨y,e⟩) (by exact Yk (AJ hsz (DY rfl))) (by simp [Builtin.List.listTooLong,sizeLine];exact hsz))
    ⟨hl,h⟩⟩)
theorem NJ {x:Str} {f:Pos} (b:names.lookup "len" = some .globalImplicit) (y:pe x=some (.raw (.ref a))) (hl:(a,EC items c)∈w.led) (d:items.size≤1000) (hd:autoParam ((x==("__debug__" : Str))=false) B8) (g:autoParam ((x==("__classdict__" : Str))=false) B8) :
  Ev w names n pe (.Call (.Name "len" np) [.Name x f] [] pos) (.fv (.int items.size)):=fun A env s Q E C k=>
 FI C H4 b (AA y hd g) fun v s₁ h e=>by
  obtain rfl:=e;exact call_len_list (items:=items) (Cc _ (((C.step h).gh.led _ hl).1) rfl _ rfl) (by exact Kc (Hd d) (DY rfl)) (k _ _ (h.trans (Step.toks s₁ (s₁.toks+1+1))) ⟨_,rfl⟩)
theorem Of (k:Nat) (t:Tok):Al (List.replicate k (.int 0)) (List.replicate k (.int 0 t)):=by
 induction k with
 |zero=>trivial
 |succ k h=>exact⟨⟨t,rfl⟩,h⟩
theorem Og {x:Str} {B j z:Pos} (t:names.lookup "len" = some .globalImplicit) (p:pe x=some (.raw (.ref a))) (hl:(a,EC items c)∈w.led) (i:items.size≤1000) (hd:autoParam ((x==("__debug__" : Str))=false) B8) (r:autoParam ((x==("__classdict__" : Str))=false) B8) :
  FD w names n pe (.BinOp (.List [.Constant (.int 0) kk j] F) .Mult (.Call (.Name "len" np) [.Name x B] [] pos) z) (List.replicate items.size (.int 0)):=fun A env s Q E C k=>by
 refine wpAny_BinOp (wpAny_List ?_);refine AB (BV rfl) ?_;refine spliced_cons (wpAny_Constant_int (k:=kk) (pos:=j) (spliced_nil ⟨by exact List.getElem?_eq_none_iff.mp rfl,?_⟩));have h:Step w s { s with heap:=s.heap.push { cls:=.type "list",data:=.seq [Value.int 0 s.toks].toArray },toks:=s.toks+1 }:=(Step.Bu s).trans (Step.push { s with toks:=s.toks+1 } _);have D:(s.heap.push { cls:=.type "list",data:=.seq [Value.int 0 s.toks].toArray }).get? s.heap.objs.size=some (EC #[Value.int 0 s.toks] 0):=BD _ rfl;refine NJ t p hl i hd r A env _ _ E (C.step h) fun v y e b=>?_;obtain⟨u,rfl⟩:=b;refine Td (e.get (C.step h).gh D (Ab rfl) (AG rfl)) (Int.neg_ofNat_le_natCast (2^63) items.size) (Kc (Hd i) (DY rfl)) (by simp;exact AJ i (Nat.le_add_left 1000 16776216)) ?_;refine k y.heap.objs.size (List.replicate items.size (.int 0 s.toks)) _ ((h.trans e).trans (Step.push (w:=w) y { cls:=.type "list",data:=.seq (List.foldl (fun d f=>d++f) #[] (List.replicate (if(#[Value.int 0 s.toks]:Array Value).isEmpty=true then 0 else((items.size:Int)).toNat) #[Value.int 0 s.toks])) })) ((h.trans e).gone C.gh (fresh_at _)) ⟨0,?_⟩ (Of _ _);have q:∀ (m:Nat) (g:Array Value),List.foldl (fun d f=>d++f) g (List.replicate m #[Value.int 0 s.toks])=g++(List.replicate m (Value.int 0 s.toks)).toArray:=by
  intro m
  induction m with
  |zero=>intro g;rfl
  |succ m l=>intro g;refine AB List.replicate_succ ?_;refine Eq.trans List.foldl_cons ?_;refine Eq.trans (l ..) ?_;apply Array.ext';simp [List.replicate_succ]
 refine AB (q ..) ?_;have:=BD y.heap (o:={ cls:=.type "list",data:=.seq ((#[]:Array Value)++(List.replicate items.size (Value.int 0 s.toks)).toArray) }) rfl
 simpa using this
set_option tactic.hygienic true in
theorem YF {x:Str} (y:env.scope.kind = .function) (a:AZ s.heap env x v) (h:Q v s) (b:autoParam ((x==("__classdict__" : Str))=false) B8):wpAny M A (loadName env x) Q E s:=by
 unfold AZ at a;split at a
 ·rename_i e;refine AF (a) fun m g k=>?_;exact wpAny_loadName_local y e g k h
 ·rename_i e;refine AF (a) fun c hl k=>?_;exact wpAny_loadName_cell y e hl k h
 ·rename_i e;refine AF (a) fun c hl k=>?_;exact wpAny_loadName_free y e hl k h b
 ·exact a.elim
noncomputable def Q1 (w:Wd) (op:Operator) (a b c:FV):Prop:=∀ (A:Around) (s:Shared) (Q:Value→Shared→Prop) (E:Value→Shared→Prop) (va vb:Value),
 A.handled=none→0<s.toks→BZ a va→BZ b vb→(∀ v,BZ c v→Q v { s with toks:=s.toks+1 })→wpAny (MD w) A (inplaceOp op va vb) Q E s
theorem Te {i j:Int} : Q1 w .Add (.int i) (.int j) (.int (i+j)):=fun A s Q E g x y a e k h=>Fv e k fun t u=>AutoIntOps.iadd_0 (h _ ⟨_,rfl⟩)
theorem Oh {x:UInt64} {j:Int} (k:j.natAbs<2^1023):Q1 w .Add (.AS x) (.int j) (.AS (Float64.add x (Float64.ofInt j))):=fun A s Q E c a b g y e h=>PS y e fun t u=>PySem.Flt.iadd_fi_1 (Float64.ofInt_fits k) (h _ (D6 g))
theorem Tf {x:Str} {op:Operator} {a b c:FV} (j:pe x=some (.fv a)) (q:Ev w names n pe e (.fv b)) (m:Q1 w op a b c) (u:own≠some x) (o:names.lookup x=some .local) (l:autoParam ((x==("__classdict__" : Str))=false) B8) :
  N1 w names oc n own pe (.AugAssign (.Name x px) op e pos) own (pe.set x (.fv c)):=fun A env s₀ s Q E F k=>by
 refine AF (F.cx.vars x _ j) fun v r t=>?_;refine wpAny_AugAssign_Name (YF F.cx.eo.kd r ?_ l);refine q A env s _ E F.cx fun i g f d=>?_;have y:=F.step f;refine m A g _ E v i y.cx.ok.h y.cx.ok.tk t d fun B p=>?_;exact ED (y.step (Step.Bu g)) (.inl o) (pv:=.fv c) p trivial u fun s' z Z=>k s' z
end
section
variable {w:Wd} {names:BC} {oc:List Str} {n:Nat} {own:Option Str} {pe pe':PE}
theorem ID {Q:Unit→Shared→Prop} (hl:s.heap.PlainList l items)
  (a:0≤k) (h:k<2^63) (d:k<items.size) (b:∀ h',h'.PlainList l (items.setIfInBounds k.toNat v)→Heap.SameBut l s.heap h'→Q () { s with heap:=h' }) :
  wpAny (MD w) A (setItem (.ref l) (.int k t) v) Q E s:=by
 obtain⟨f,y⟩:=id hl;have x:=hl.isList;unfold setItem
 try with_reducible refine wpAny_holding ?_
 first | refine AD (AM ?_) | skip
 refine AD (wpAny_sequenceKey x.typeIs (by rfl) ?_);refine AD (wpAny_callSpecial?_slot (name:=Str.ofString "__setitem__") x.typeIs slot_list_setitem
  (wpAny_call_entry slot_list_setitem x.typeIs entry_list_setitem ?_ (args_list_setitem _ _ _)))
 show wpAny _ _ (Builtin.List.listSubscript? (.int k t)>>=_) _ _ s;refine AD (wpAny_listSubscript_int (fitsIndex_of a h) ?_);clear h;obtain⟨j,rfl⟩:=Int.eq_ofNat_of_zero_le a;have c:j<items.size:=Int.ofNat_lt.mp d;have g:items[j]? = some items[j]:=Array.getElem?_eq_getElem c;refine AD (AD (wpAny_seqItemAt y rfl (AM ?_)));refine AB g ?_;have e:(s.heap.update l (Obj.mapSeq (·.setIfInBounds j v))).PlainList l (items.setIfInBounds j v):=⟨_,Heap.get?_update_self _ y rfl⟩
 refine AD (wpAny_setSeqItemAt y rfl ?_)
 first
  |exact AD (AM (AM (AQ .none rfl (AM (b _ e (Heap.SameBut.update ..))))))
  |exact AM ⟨.none,rfl,AM (b _ e (Heap.SameBut.update ..))⟩
theorem Al.set {vs:List Value} (h:Al fs vs) (k:Nat) (r:BZ f v):Al (fs.set k f) (vs.set k v):=by
 induction k generalizing fs vs with
 |zero=>exact h.ind (M:=fun fs vs=>Al (fs.set 0 f) (vs.set 0 v)) trivial fun z z z z z h z=>⟨r,h⟩
 |succ k e=>exact h.ind (M:=fun fs vs=>Al (fs.set (k+1) f) (vs.set (k+1) v)) trivial fun z z z z q h z=>⟨q,e h⟩
theorem MQ {x i r:Str} {P L o M:Pos} {k:Nat} (z:pe x=some (.list xs)) (R:pe i=some (.raw (.int k t))) (J:pe r=some (.fv f)) (d:k<xs.length) (O:xs.length≤1000)
  (D:autoParam ((x==("__debug__" : Str))=false) B8) (q:autoParam ((x==("__classdict__" : Str))=false) B8) (N:autoParam ((i==("__debug__" : Str))=false) B8) (j:autoParam ((i==("__classdict__" : Str))=false) B8) (B:autoParam ((r==("__debug__" : Str))=false) B8) (p:autoParam ((r==("__classdict__" : Str))=false) B8) :
  N1 w names oc n (some x) pe (.Assign [.Subscript (.Name x P) (.Name i L) M] (.Name r o) pos) (some x) (pe.set x (.list (xs.set k f))):=fun A env s₀ s Q E F K=>by
 refine wpAny_Assign_Subscript ?_;refine AA J B p A env s _ E F.cx fun v s₁ e H=>?_;have h:=F.step e;refine DU (Ho h) fun a ys vs I m l c G=>?_;obtain rfl:=(Internal.PV.list.inj ((B6 z I)))
 refine Fe h.cx.eo.kd m ?_ D q;refine AF (h.cx.vars i _ R) fun S b g=>?_;obtain rfl:=g;refine Fe h.cx.eo.kd b ?_ N j;have y:=c.length;refine ID l (by exact Int.natCast_nonneg k) (by exact Int.lt_of_lt_of_le (R8 d O) (DY rfl)) (by simp;exact Nat.lt_of_lt_of_eq d (id (Eq.symm y))) fun h' C u=>?_;refine K _ (G h' s₁.toks (vs.set k v) _ (by simpa using C) u (c.set k H) (Nat.le_refl _))
end
section
variable {w:Wd} {names:BC} {oc:List Str} {n:Nat} {A:Around} {env:Env} {s₀ s:Shared} {own:Option Str} {pe:PE}
theorem JJ {y:Addr} {Q:Option Value→Shared→Prop} {r:JG} {o:Obj} (m:A.handled=none) (e:s.heap.get? y=some o) (hl:s.heap.get? l=some (EC items c)) (a:Fj o items l r o')
  (h:match r with | .item x=>Q (some x) (put s y o') | .stop=>∀ s',Step w (put s y o') s'→Q none s'):wpAny (MD w) A (pyNext (.ref y)) Q E s:=by
 have j:s.TypeIs (.ref y) "list_iterator":=by
  refine(AQ o e ?_)
  induction r with
  |item x=>refine AF (a) fun i g u=>?_;obtain rfl:=g;rfl
  |stop=>
   refine AF (a) fun i u a=>?_;rcases a with rfl | ⟨rfl,_⟩<;>rfl
 have f:wpAny (MD w) A (call (.builtin "list_iterator.__next__") [.ref y]) (fun v s'=>Q (some v) s') (fun e s'=>wpAny (MD w) A (isInstance e (.type "StopIteration")) (fun b k=>if b=true then Q none k else E e k) E s') s:=
  NG (r:=r) m e hl a (by
   induction r with
   |item x=>exact h
   |stop=>exact fun p s' x X=>GK X (by refine AB (if_pos rfl) ?_;exact h s' x))
 refine AD (wpAny_attempt (wpAny_callSpecial?_slot (name:=Str.ofString "__next__") j slot_listiter_next (wpAny_mono f (fun v s' t=>?_) (fun p s' q=>?_))))
 ·exact AM t
 ·refine AD (wpAny_mono q (fun b k d=>?_) fun u u z=>z)
  induction b with
  |true=>exact AM d
  |false=>exact wpAny_throw d
theorem Mv.put {h:Addr} {o:Obj} (G:GH w s₀.heap) (x:Step w s₀ s) (f:s₀.heap.get? h=none) (e:s.heap.get? h=some o) (m:CE o):Mv w s₀ [h] s (put s h o'):=
 Mv.upd (t:=s.toks) G x D1 f e m.d4 (Heap.SameBut.update s.heap h fun z=>o')
noncomputable def E0 (xs:List FV) (pp:Nat→Nat) (f:FV) (m:Nat):List FV:=(List.range m).foldl (fun l j=>l.set (pp j) f) xs
theorem ET (xs:List FV) (pp:Nat→Nat) (f:FV) (m:Nat):E0 xs pp f (m+1)=(E0 xs pp f m).set (pp m) f:=by
 unfold E0;refine AB List.range_succ ?_;refine Eq.trans List.foldl_append ?_;rfl
theorem FJ (xs:List FV) (pp:Nat→Nat) (f:FV) (m:Nat):(E0 xs pp f m).length=xs.length:=by
 induction m with
 |zero=>rfl
 |succ m h=>refine AB (ET ..) ?_;refine Eq.trans List.length_set ?_;refine Eq.trans h ?_;rfl
end
section
variable {w:Wd} {names:BC} {oc:List Str} {n:Nat} {A:Around} {env:Env} {s₀ s:Shared} {own:Option Str} {pe:PE}
noncomputable abbrev Wd.add (w:Wd) (L:List (Addr×Obj)) (D:List Addr):Wd:=w.wit (L++w.led) (D++w.Bm)
theorem Fm.Q4 (F:Fm w names oc n A env s₀ own s pe) (L:List (Addr×Obj)) (D:List Addr) (b:∀ p∈L,s.heap.get? p.1=some p.2∧p.2.cls≠.none∧¬Af p.2∧(∀ v,p.2.data≠.cell v)∧∀ x,own=some x→¬AZ s.heap env x (.ref p.1))
  (a:∀ d∈D,(∃ c,s.heap.get? d=some { cls:=.type "dict",data:=.dict #[],slots:=c })∧d≠env.locals):∃ s₁,Step w s₀ s₁∧GH w s₁.heap∧Fm (w.add L D) names oc n A env s₁ own s pe:=by
 refine Cy (F.seg L D b a) fun s₁ x G k z=>?_;have g:=k.g0;have e:=(k.Bd G).wit (L:=L++w.led) (D:=D++w.Bm) (fun p y=>by
  refine Or.elim (List.mem_append.mp y) (fun h=>?_) (fun h=>?_)
  ·exact g.led p h
  ·exact G.led p h) fun d hd=>by
  refine Or.elim (List.mem_append.mp hd) (fun h=>?_) (fun h=>?_)
  ·exact g.Bm d h
  ·exact G.Bm d h
 exact(Aj s₁ x G e)
theorem GL (F:Fm w names oc n A env s₀ own s pe) {b:Addr} {o:Obj} (e:s.heap.get? b=some o) (h:(∀ xs k,o≠EC xs k)∨∃ o,s₀.heap.get? b=some o):∀ x,own=some x→¬AZ s.heap env x (.ref b):=fun x i d=>by
 refine B9 (F.ow x i) fun a xs vs p q g r f u=>?_;refine Ap (g) fun l j=>?_;have y:=q.uniq d;injection y with y;clear d;subst y;refine Or.elim h (fun h=>?_) (fun c=>?_)
 ·rw [j]at e;exact h _ _ (Ai e).symm
 ·refine Ap (c) fun o' h=>?_;injection (f.symm.trans h)
theorem Oj {Q:Flow→Shared→Prop} {TT:Nat→Addr} {vv:Nat→Value} {pp:Nat→Nat} {tt:Nat→Tok} {vp op Y gp rp sp kp ap:Pos}
  (F:Fm w names [] n A env s₀ (some "result") s pe) (hg:pe "group" = some (.raw (.ref S))) (hS:(S,EC items c)∈w.led) (hr:pe "result" = some (.list xs)) (U:pe "rank" = some (.fv f))
  (V:∀ j,j<items.size→items[j]? = some (.ref (TT j))∧(TT j,AU (vv j) (.int (pp j) (tt j)))∈w.led∧pp j<xs.length) (ff:names.lookup "value" = some .local) (Z:names.lookup "orig_pos" = some .local) (hz:xs.length≤1000)
  (K:∀ s' pe',(∀ z:Str,z≠"value"→z≠"orig_pos"→z≠"result"→pe' z=pe z)→pe' "result" = some (.list (E0 xs pp f items.size))→Fm w names [] n A env s₀ (some "result") s' pe'→Q .next s') :
  wpAny (MD w) A (exec (.For (.Tuple [.Name "value" vp,.Name "orig_pos" op] kk tp) (.Name "group" gp) [.Assign [.Subscript (.Name "result" rp) (.Name "orig_pos" Y) sp] (.Name "rank" kp) ap] [] fp) env) Q E s:=by
 refine wpAny_For (AA (pv:=.raw (.ref S)) hg (by rfl) (by rfl) A env s _ E F.cx fun v s₁ M H=>?_);refine AB H ?_;have a:=F.step M;refine wpAny_pyIter_list (Cc _ ((a.cx.gh.led _ hS).1) rfl _ rfl) ?_;have fI:s₀.heap.get? s₁.heap.objs.size=none:=a.st.gone F.g0 (fresh_at _);have eI:(s₁.heap.push (DX S 0)).get? s₁.heap.objs.size=some (DX S 0):=BD _ rfl;generalize s₁.heap.objs.size=I at *;refine codeAny_forLoop_any (fun k s'=>∃ j pe',k=items.size+1-j∧j≤items.size∧(∀ z:Str,z≠"value"→z≠"orig_pos"→z≠"result"→pe' z=pe z)∧pe' "result" = some (.list (E0 xs pp f j))∧Fm w names [] n A env s₀ (some "result") s' pe'∧s'.heap.get? I=some (DX S j))
  (fun k s' hI=>?_) (items.size+1) (Cz 0 pe rfl (Nat.zero_le _) (fun _ _ _ _=>rfl) hr (a.step (Step.push s₁ (DX S 0))) eI)
 refine DT (hI) fun j pe' q hj C G u g=>?_;clear hI;obtain rfl:=q;have R:∀ b∈[I],∀ o,s'.heap.get? b=some o→¬Af o∧(∀ v,o.data≠.cell v)∧∀ xs k,o.data≠.seq xs k:=fun b hb o e=>by
  replace e:=(List.mem_singleton.mp hb)▸e;replace e:=g.symm.trans e;refine Ar (Ai e) ?_;exact(B2 ((BB _ _).d1) ((BB _ _).d2) ((BB _ _).d3))
 refine Or.elim (Nat.lt_or_ge j items.size) (fun B=>?_) (fun X=>?_)
 ·refine CK (V j B) fun i1 i2 i3=>?_;refine JJ (r:=.item (.ref (TT j))) u.cx.ok.h g (u.cx.gh.led _ hS).1 (Aj j rfl i1 rfl) ?_;have y:=u.mv (Mv.put (o':=DX S (j+1)) F.g0 u.st fI g (BB _ _)) R;have L:(put s' I (DX S (j+1))).heap.get? I=some (DX S (j+1)):=Bk g rfl;refine wpAny_letOwnedTupleGo_listiter (Aj _ L rfl rfl) ?_;refine La (p1:=.raw (vv j)) (p2:=.raw (.int (pp j) (tt j))) y (y.cx.gh.led _ i2).1 ff Z (fun _=>rfl) (fun _=>rfl) trivial trivial (by decide) (by decide) fun T l J=>?_;have O:=J _ _ (BB _ _).d1 (BB _ _).d2 L;refine AY (l.Q4 [(I,DX S (j+1))] [] (fun p hp=>by
   refine AB (List.mem_singleton.mp hp) ?_;exact(Ei O ((BB _ _).c1) ((BB _ _).d1) ((BB _ _).d2) (GL l O (.inl fun xs k h=>by injection h with h;injection h with h;simp at h)))) (fun d hd=>by cases hd)) fun sg xg Gg D=>?_
  refine wpAny_execs_cons (MQ (w:=w.add [(I,DX S (j+1))] []) (x:="result") (i:="orig_pos") (r:="rank") (k:=pp j) (t:=tt j) (f:=f) (xs:=E0 xs pp f j) ?_ rfl ?_ (by refine AB (FJ ..) ?_;exact i3) (by refine AB (FJ ..) ?_;exact hz) (by rfl) (by rfl) (by rfl) (by rfl) (by rfl) (by rfl) A env sg T _ _ D fun S' m=>wpAny_execs_nil ?_)
  ·refine Eq.trans ?_ G;rfl
  ·refine Eq.trans ?_ U;refine Eq.trans ?_ (C "rank" (by decide) (by decide) (by decide));rfl
  ·refine(G6 (items.size+1-(j+1)) (Y' B) (j+1) _ rfl B (fun z h1 h2 h3=>?_) ?_ ((m.Bd Gg).down F.g0 xg) ((m.cx.gh.led (I,DX S (j+1)) D1).1))
   ·refine Eq.trans ?_ (C z h1 h2 h3);simp [PE.set,h1,h2,h3]
   ·refine AB (ET ..) ?_;rfl
 ·have W:j=items.size:=Nat.le_antisymm hj X;subst W;refine JJ (r:=.stop) u.cx.ok.h g (u.cx.gh.led _ hS).1 (AQ items.size rfl (.inr ⟨rfl,by exact Array.getElem?_size⟩)) fun N P=>?_;have y:=(u.mv (Mv.put (o':=R2 items.size) F.g0 u.st fI g (BB _ _)) R).step P;exact wpAny_execs_nil (K N pe' C G y)
end
section
variable {w:Wd} {names:BC} {oc:List Str} {n:Nat} {A:Around} {env:Env} {s₀ s s':Shared} {own:Option Str} {pe:PE} {g:GP} {sl:Array (Option Value)} {o:Obj}
theorem C'.step (X:C' w g s₀ sl o s) (h:LY w g s₀) (x:Step w s s'):C' w g s₀ sl o s':=
 have G:=X.st.gh h.G
 ⟨X.st.trans x,X.gi.step x G,x.get G X.i X.om.nt X.om.d1,X.om,X.oc,x.get G X.l (Ab rfl) (AG rfl),X.ig.step x G,x.get G X.IT (Ab rfl) (AG rfl),fun k e=>x.get G (X.ts k e) (Ab rfl) (AG rfl)⟩
theorem C'.Q5 (G:GH w' s.heap) (hl:∀ p∈g.led sl o,p∈w'.led) (x:g.A9∈w'.Bm) (y:g.ER∈w'.Bm) (a:Step w s₀ s) (e:CE o) (oc:o.cls = .type "list_iterator"):C' w g s₀ sl o s:=
 have L:∀ p∈g.led sl o,s.heap.get? p.1=some p.2:=fun p k=>(G.led p (hl p k)).1
 ⟨a,⟨L _ D1,G.Bm _ x⟩,L _ R0,e,oc,L _ We,⟨L _ Ym,G.Bm _ y⟩,L _ cL,fun z h=>L _ (cM (g.mem h))⟩
theorem V7 {M:List Addr} (F:Fm w names oc n A env s₀ own s pe) (m:Mv w s₀ M s s') (j:∀ b∈M,∀ o,s.heap.get? b=some o→¬Af o∧(∀ v,o.data≠.cell v)∧∀ xs k,o.data≠.seq xs k) {y:Str} (k:AZ s.heap env y v):AZ s'.heap env y v:=by
 have hd:∀ {b o},Af o→s.heap.get? b=some o→∃ l,s'.heap.get? b=some { o with slots:=l }:=fun d e=>m.dc _ _ (fun f=>(j _ f _ e).1 d) d e;exact k.Zy (fun x=>BR (x) fun o es i e d r=>Ap (hd (DB es i d) e) fun l p=>(FA _ es i p d r)) (fun {c v} ⟨o,e,d⟩=>(AQ o (m.kp _ _ (fun f=>(j _ f _ e).2.1 v d) (fun h=>Ap (h) fun vs q=>by rw [q]at d;injection d) (fun a=>Bj (a) fun z z q=>by injection (q.symm.trans d)) e) d))
theorem C'.Yy (X:C' w g s₀ sl o s):∀ b∈[g.gb,g.it],∀ h,s.heap.get? b=some h→¬Af h∧(∀ v,h.data≠.cell v)∧∀ xs k,h.data≠.seq xs k:=
 A0 (fun h e=>Ai (X.gi.a.symm.trans e)▸(B2 ((AH _ _ _).d1) ((AH _ _ _).d2) ((AH _ _ _).d3))) (A0 (fun h e=>Ai (X.i.symm.trans e)▸(B2 X.om.d1 X.om.d2 X.om.d3)) Dh)
theorem MR {y:Addr} {c:Array (Option Value)} {x:List Expr} {k:Nat} {Q:Unit→Shared→Prop} (e:s.heap.get? a=some (AX C y c)) (h:Q () s):wpAny (MD w) A (letOwnedTupleGo (.Tuple x k pos) (.ref a) v) Q E s:=by
 induction v with
 |ref b=>exact AD (wpAny_load e (AM h))
 |_=>exact AM h
theorem C'.YG (X:C' w g s₀ sl o s) (F:Fm w names oc n A env s₀ own s pe) (b:∀ x,own=some x→¬AZ s.heap env x (.ref g.D)):∀ p∈g.led sl o,s.heap.get? p.1=some p.2∧p.2.cls≠.none∧¬Af p.2∧(∀ v,p.2.data≠.cell v)∧∀ x,own=some x→¬AZ s.heap env x (.ref p.1):=fun p a=>
 have h:=X.led p a;have k:(∀ v,p.2.data≠.cell v)∧(p.1=g.D∨∀ xs k,p.2≠seqObj "list" xs k):=A0 (P:=fun p:Addr×Obj=>(∀ v,p.2.data≠.cell v)∧(p.1=g.D∨∀ xs k,p.2≠seqObj "list" xs k)) ⟨(AH _ _ _).d2,.inr fun z z h=>Rz (congrArg Obj.cls h).symm⟩ (A0 ⟨X.om.d2,.inr fun xs k h=>X.om.d3 xs k (congrArg Obj.data h)⟩ (A0 ⟨fun v q=>Data.noConfusion q,.inl rfl⟩ (A0 ⟨(AH _ _ _).d2,.inr fun z z h=>Rz (congrArg Obj.cls h).symm⟩ (A0 ⟨fun v q=>Data.noConfusion q,.inr fun z z h=>R4 (by decide) (congrArg Obj.cls h)⟩ fun p a=>by
  refine AF (g.of a) fun k c y=>?_;obtain rfl:=y;exact⟨fun v q=>Data.noConfusion q,.inr fun z z h=>R4 (by decide) (congrArg Obj.cls h)⟩)))) p a
 (Ei h.1 h.2.1 h.2.2 k.1 (k.2.elim (fun e=>e▸b) fun e=>GL F h.1 (.inl e)))
end
noncomputable abbrev Ol (w:Wd):BC:=Iy (fdOf Ed)
noncomputable def Q6:List Stmt:=Yh ((Ag (BM 17)).getD 6 (.Pass default))
section
variable {w:Wd} {n:Nat} {A:Around} {env:Env} {s₀ s s':Shared} {pe:PE} {g:GP} {sl:Array (Option Value)} {o:Obj}
theorem U7 (F:Fm w (Ol w) [] n A env s₀ (some "result") s pe) (h:(g.D,seqObj "list" g.Ia g.c)∈w.led):∀ x,some ("result" : Str)=some x→¬AZ s.heap env x (.ref g.D):=GL F (F.cx.gh.led _ h).1 (.inr ⟨_,(F.g0.led _ h).1⟩)
theorem Om {Q:Unit→Shared→Prop} {P b e:Addr} {H:Value} {y:Array (Option Value)} {R:Pos} (S:LY w g s₀) (N:(g.D,seqObj "list" g.Ia g.c)∈w.led) (O:g.A9≠env.locals) (J:g.ER≠env.locals) (L:e≠env.locals)
  (F:Fm w (Ol w) [] n A env s₀ (some "result") s pe) (X:C' w g s₀ sl o s) (M:s.heap.get? P=some (AU H (.ref b))) (I:Am s.heap b e 212 y)
  (K:∀ s',Fm w (Ol w) [] n A env s₀ (some "result") s' ((pe.set "_" (.raw H)).set "g" (.raw (.ref b)))→C' w g s₀ sl o s'→Am s'.heap b e 212 y→Q () s') :
  wpAny (MD w) A (assign (.Tuple [.Name "_" p1,.Name "g" p2] kk R) env (.ref P)) Q E s:=by
 refine AY (F.Q4 ((b,AX 212 e y)::(P,AU H (.ref b))::g.led sl o) [e,g.A9,g.ER] (fun p i=>by
  refine Or.elim (List.mem_cons.mp i) (fun l=>?_) (fun i=>?_)
  ·refine AB l ?_;exact(Ei I.a ((AH _ _ _).c1) ((AH _ _ _).d1) ((AH _ _ _).d2) (GL F I.a (.inl fun xs k h=>by injection h with h;injection h)))
  refine Or.elim (List.mem_cons.mp i) (fun z=>?_) (fun i=>?_)
  ·refine AB z ?_;exact(Ei M (by intro h;injection h) (AG rfl) (fun v q=>by injection q) (GL F M (.inl fun xs k h=>by injection h with h;injection h with h;simp at h)))
  ·exact X.YG F (U7 F N) p i) (fun d hd=>by
  simp only [List.mem_cons,List.not_mem_nil,or_false]at hd;refine Or.elim hd (fun B=>?_) (fun m=>Or.elim m (fun C=>?_) (fun j=>?_))
  ·refine AB B ?_;exact⟨I.d,L⟩
  ·refine AB C ?_;exact⟨X.gi.d,O⟩
  ·refine AB j ?_;exact⟨X.ig.d,J⟩)) fun s₁ t r u=>?_
 refine La (w:=w.add ((b,AX 212 e y)::(P,AU H (.ref b))::g.led sl o) [e,g.A9,g.ER]) (p1:=.raw H) (p2:=.raw (.ref b)) u M rfl rfl (fun Z=>rfl) (fun Z=>rfl) trivial trivial (by decide) (by decide) fun G x Z=>?_;have f:=(x.Bd r).down F.g0 t;refine K G f (C'.Q5 x.cx.gh (fun p i=>by simp [i]) R0 We f.st X.om X.oc) ⟨(x.cx.gh.led (b,AX 212 e y) D1).1,x.cx.gh.Bm e D1⟩
end
section
variable {w:Wd} {n:Nat} {A:Around} {env:Env} {s₀ s s':Shared} {pe:PE} {g:GP}
set_option maxHeartbeats 2000000 in
theorem Tg {Q:Flow→Shared→Prop} {gr Fn:Addr} {cn:Int} {ct mt:Tok} {se:Value} {e q:Nat} {P V:FV} {hf R:UInt64} {pp:Nat→Nat} {tt:Nat→Tok}
  (gf:LY w g s₀) (ht:g.tok) (hN:g.N≤1000) (fh:(g.D,seqObj "list" g.Ia g.c)∈w.led) (Ly:g.A9≠env.locals) (hd2:g.ER≠env.locals)
  (heq:e<q) (hq:q≤g.N) (a3:∀ k,e≤k→k<q→g.a k=g.a e) (stop:q<g.N→g.a q≠g.a e)
  (hy:∀ k,k<g.N→g.y k = .int (pp k) (tt k)) (fj:∀ k,k<g.N→pp k<xs.length) (hz:xs.length≤1000)
  (a8:D2 w .Div (.int (((q-e:Nat):Int)+1)) (.int 2) (.AS hf)) (av:D2 w .Add P (.AS hf) (.AS R)) (a0:Q1 w .Add P (.int ((q-e:Nat):Int)) V)
  (F:Fm w (Ol w) [] (n+7) A env s₀ (some "result") s pe) (X:C' w g s₀ (g.R3 (.int cn ct) se tk e) (DX g.D (e+1)) s) (I:Am s.heap gr Fn 212 (CV (.int cn mt) g.gb (.int (g.a e) (g.u e))))
  (hg:pe "g" = some (.raw (.ref gr))) (hi:pe "i" = some (.fv P)) (hr:pe "result" = some (.list xs))
  (K:∀ s' pe',Fm w (Ol w) [] (n+7) A env s₀ (some "result") s' pe'→C' w g s₀ (g.Qu (.int cn ct) se tk q) (g.oE q) s'→pe' "i" = some (.fv V)→pe' "result" = some (.list (E0 xs (fun j=>pp (e+j)) (.AS R) (q-e)))→Q .next s') :
  wpAny (MD w) A (execs Q6 env) Q E s:=by
 refine wpAny_execs_cons (wpAny_Assign_Name (LK F.cx Mu rfl rfl ?_) rfl);refine AE (AA hg) AK rfl A env s _ _ E F.cx fun vs L8 H O=>?_;refine AF (BP O) fun v aw r3=>?_;clear O;obtain rfl:=aw;obtain rfl:=r3;have o:=F.step H;have G:=X.step gf H;have a9:=I.step H F.cx.gh;refine Jz (n:=n) gf ht hN heq hq a3 stop G o.cx.ok a9 fun S YH c i hS fS m=>?_;have C:=o.mv m G.Yy;have ay:∀ x,some ("result" : Str)=some x→¬AZ YH.heap env x (.ref S):=fun x hx hv=>by
  refine CX (o.ow x hx) fun a ys vs p va az _=>?_;refine Ap (az) fun ml gl=>?_;have:=(V7 o m G.Yy va).uniq hv;injection this with this;clear hv;subst this;injection (gl.symm.trans fS)
 refine AY (C.Q4 ((S,EC (g.grp e q) c)::g.led (g.Qu (.int cn ct) se tk q) (g.oE q)) [g.A9,g.ER] (fun p hp=>by
  refine Or.elim (List.mem_cons.mp hp) (fun V8=>?_) (fun hp=>?_)
  ·refine AB V8 ?_;exact(Ei hS (by intro h;injection h) (AG rfl) (fun v q=>by injection q) ay)
  ·exact i.YG C (U7 C fh) p hp) (fun d hd=>by
  simp only [List.mem_cons,List.not_mem_nil,or_false]at hd;refine Or.elim hd (fun bA=>?_) (fun bB=>?_)
  ·refine AB bA ?_;exact⟨i.gi.d,Ly⟩
  ·refine AB bB ?_;exact⟨i.ig.d,hd2⟩)) fun J bC bD r=>?_
 generalize hW:w.add ((S,EC (g.grp e q) c)::g.led (g.Qu (.int cn ct) se tk q) (g.oE q)) [g.A9,g.ER]=W at r;have a7:W.w=w.w:=by refine Ar hW ?_;rfl
 have a5:(S,EC (g.grp e q) c)∈W.led:=by refine Ar hW ?_;exact D1
 have bE:∀ k,k<g.N→(g.T k,AU (.int (g.a k) (g.u k)) (g.y k))∈W.led:=fun k hk=>by refine Ar hW ?_;simp [GP.led,g.mem hk]
 have hM:MD w=MD W:=by show model PR w.w=model PR W.w;refine AB a7 ?_;rfl
 have Yz:Ol w=Ol W:=by show Iy _=Iy _;refine AB a7 ?_;rfl
 replace r:=Yz▸r;have bF:D2 W .Div (.int (((q-e:Nat):Int)+1)) (.int 2) (.AS hf):=by unfold D2;refine Ar hM ?_;exact a8
 have fm:D2 W .Add P (.AS hf) (.AS R):=by unfold D2;refine Ar hM ?_;exact av
 have fq:Q1 W .Add P (.int ((q-e:Nat):Int)) V:=by unfold Q1;refine Ar hM ?_;exact a0
 refine AB hM ?_;refine ED (pv:=.raw (.ref S)) r (.inl rfl) rfl trivial (by decide) fun a2 a1 _=>?_;have hsz:(g.grp e q).size=q-e:=g.IC;refine wpAny_execs_cons (Fo (pv:=.fv (.int ((q-e:Nat):Int))) (by refine Ar hsz ?_;exact NJ rfl rfl a5 (by refine AB hsz ?_;exact AJ (Nat.sub_le q e) (AJ hq hN))) trivial (by decide) (.inl rfl) (by intros;rfl) A env J a2 _ _ a1 fun bG bH=>?_);have Y:(((pe.set "group" (.raw (.ref S))).set "size" (.fv (.int ((q-e:Nat):Int)))):PE) "i" = some (.fv P):=by refine Eq.trans ?_ hi;rfl
 have Z:((((pe.set "group" (.raw (.ref S))).set "size" (.fv (.int ((q-e:Nat):Int)))).set "rank" (.fv (.AS R))):PE) "result" = some (.list xs):=by refine Eq.trans ?_ hr;rfl
 have U:((((pe.set "group" (.raw (.ref S))).set "size" (.fv (.int ((q-e:Nat):Int)))).set "rank" (.fv (.AS R))):PE) "i" = some (.fv P):=by refine Eq.trans ?_ hi;rfl
 refine wpAny_execs_cons (Fo (own:=some "result") (pv:=.fv (.AS R)) (AI (AA Y) (AI (AI (AA rfl) (AV 1 _ _) En) (AV 2 _ _) bF) fm) trivial (by decide) (.inl rfl) (by intros;rfl) A env J bG _ _ bH fun ft a6=>?_);refine wpAny_execs_cons (Oj (S:=S) (items:=g.grp e q) (c:=c) (f:=.AS R) (TT:=fun j=>g.T (e+j)) (vv:=fun j=>.int (g.a (e+j)) (g.u (e+j))) (pp:=fun j=>pp (e+j)) (tt:=fun j=>tt (e+j)) a6 rfl a5 Z rfl (fun j hj=>?_) rfl rfl hz fun M pe' a4 fw B=>?_)
 ·rw [hsz]at hj;refine(B2 ?_ ?_ (fj _ (Nat.lt_of_lt_of_le (Nat.add_lt_of_lt_sub' hj) hq)))
  ·unfold GP.grp;rw [List.getElem?_toArray,List.getElem?_map,List.getElem?_range' hj];simp
  ·have:=bE (e+j) (Nat.lt_of_lt_of_le (Yl hj) hq);rw [hy _ (Nat.lt_of_lt_of_le (Yl hj) hq)]at this;exact this
 ·have z:pe' "i" = some (.fv P):=by refine Eq.trans (a4 "i" (by decide) (by decide) (by decide)) ?_;exact U
  have t:pe' "size" = some (.fv (.int ((q-e:Nat):Int))):=by refine Eq.trans (a4 "size" (by decide) (by decide) (by decide)) ?_;rfl
  refine wpAny_execs_cons (Tf (own:=some "result") z (AA t) fq (by decide) rfl (by rfl) A env J M _ _ B fun L b=>wpAny_execs_nil ?_);replace b:=Yz.symm▸b;replace b:=hW.symm▸b;have l:=(b.Bd bD).down F.g0 bC;refine K L _ l (C'.Q5 b.cx.gh (fun p hp=>by simp [hp]) D1 R0 l.st i.om i.oc) rfl ?_;refine Ar hsz ?_;show(if("result" : Str) = "i" then _ else pe' "result")=_;refine Eq.trans (if_neg (by decide)) ?_;refine Eq.trans fw ?_;rfl
end
structure Plan (w:Wd) (g:GP) (M:Nat) (b:Nat→Nat) (iv:Nat→FV) (rv:Nat→UInt64):Prop where
 b0:b 0=0
 M0:0<M
 bM:b M=g.N
 lt:∀ t,t<M→b t<b (t+1)∧b (t+1)≤g.N
 same:∀ t,t<M→∀ k,b t≤k→k<b (t+1)→g.a k=g.a (b t)
 stop:∀ t,t<M→b (t+1)<g.N→g.a (b (t+1))≠g.a (b t)
 ops:∀ t,t<M→∃ hf,D2 w .Div (.int (((b (t+1)-b t:Nat):Int)+1)) (.int 2) (.AS hf)∧D2 w .Add (iv t) (.AS hf) (.AS (rv t))∧Q1 w .Add (iv t) (.int ((b (t+1)-b t:Nat):Int)) (iv (t+1))
noncomputable def Th (xs:List FV) (b:Nat→Nat) (pp:Nat→Nat) (rv:Nat→UInt64):Nat→List FV
 |0=>xs
 |t+1=>E0 (Th xs b pp rv t) (fun j=>pp (b t+j)) (.AS (rv t)) (b (t+1)-b t)
theorem HX (xs:List FV) (b:Nat→Nat) (pp:Nat→Nat) (k:Nat→UInt64) (t:Nat):(Th xs b pp k t).length=xs.length:=by
 induction t with
 |zero=>rfl
 |succ t h=>exact(FJ ..).trans h
section
variable {w:Wd} {n:Nat} {A:Around} {env:Env} {s₀ s s':Shared} {pe:PE} {g:GP} {M:Nat} {b:Nat→Nat} {iv:Nat→FV} {rv:Nat→UInt64}
noncomputable def Y0 (w:Wd) (g:GP) (s₀:Shared) (b:Nat→Nat) (t:Nat) (s:Shared):Prop:=
 (t=0∧∃ cg se st,C' w g s₀ (g.Yx cg (.int se st)) (DX g.D 0) s)∨(0<t∧∃ cn ct,C' w g s₀ (g.Qu (.int cn ct) (.int cn ct) (.int (g.a (b (t-1))) (g.u (b (t-1)))) (b t)) (g.oE (b t)) s)
theorem Tn {Q:Option Value→Shared→Prop} {t:Nat} (C:LY w g s₀) (I:g.tok) (f:Plan w g M b iv rv) (e:t<M) (X:Y0 w g s₀ b t s) (G:BS w (n+4) A s)
  (k:∀ P y h j p s',C' w g s₀ (g.R3 (.int j p) (.int j p) (.int (g.a (b t)) (g.u (b t))) (b t)) (DX g.D (b t+1)) s'→(∃ K o,C' w g s₀ K o s)→Mv w s₀ [g.gb,g.it] s s'→s'.heap.get? P=some (AU (.int (g.a (b t)) (g.u (b t))) (.ref y))→Am s'.heap y h 212 (CV (.int j p) g.gb (.int (g.a (b t)) (g.u (b t))))→
   s.heap.get? h=none→Q (some (.ref P)) s'):wpAny (MD w) A (pyNext (.ref g.gb)) Q E s:=by
 have x:=(f.lt t e).1;have c:=(f.lt t e).2;refine Or.elim X (fun d=>?_) (fun i=>?_)
 ·obtain⟨rfl,R,S,T,X⟩:=d;rw [f.b0]at k x;exact Qy (n:=n) C X (Nat.lt_of_lt_of_le x c) G fun P y h m s' v m' q B L J z=>k P y h _ m s' v (DB _ _ X) m' q B z
 ·obtain⟨H,j,p,X⟩:=i;have l:b t<g.N:=Nat.lt_of_lt_of_le x c;have O:=X;unfold GP.Qu GP.oE at X;rw [if_pos l,if_pos l]at X;have r:=f.lt (t-1) (Nat.sub_lt_of_lt e);have F:=f.stop (t-1) (ZP e);rw [Nat.sub_add_cancel H]at r F;exact Qz (n:=n+1) C I X l (Nat.lt_of_lt_of_le r.1 r.2) (F l).symm G fun P y h m s' v m' q B L J z=>k P y h _ m s' v (DB _ _ O) m' q B z
theorem V9 {Q:Option Value→Shared→Prop} (c:LY w g s₀) (y:Plan w g M b iv rv) (X:Y0 w g s₀ b M s) (a:BS w (n+4) A s) (k:∀ s',(∃ f o,C' w g s₀ f o s)→Mv w s₀ [g.gb,g.it] s s'→Q none s'):wpAny (MD w) A (pyNext (.ref g.gb)) Q E s:=by
 refine Or.elim X (fun x=>?_) (fun e=>?_)
 ·refine Bt (x) fun h z=>?_;exact absurd y.M0 (Std.Rxo.size_eq_zero_iff_not_le.mp h)
 ·refine Ul (e) fun j i l X=>?_;have d:=X;unfold GP.Qu GP.oE at X;rw [y.bM,if_neg (Nat.lt_irrefl _),if_neg (Nat.lt_irrefl _)]at X;exact Q0 (n:=n) c X a fun s' m=>k s' (DB _ _ d) m
end
section
variable {w:Wd} {n:Nat} {A:Around} {env:Env} {s₀ s s':Shared} {pe:PE} {g:GP} {M:Nat} {b:Nat→Nat} {iv:Nat→FV} {rv:Nat→UInt64}
set_option maxHeartbeats 1000000 in
theorem To {R:Result→Shared→Prop} {pp:Nat→Nat} {tt:Nat→Tok} (O:LY w g s₀) (ht:g.tok) (hN:g.N≤1000) (v:(g.D,seqObj "list" g.Ia g.c)∈w.led) (B:g.A9≠env.locals) (p:g.ER≠env.locals)
  (f:Plan w g M b iv rv) (hy:∀ k,k<g.N→g.y k = .int (pp k) (tt k)) (U:∀ k,k<g.N→pp k<xs.length) (hz:xs.length≤1000)
  (F:Fm w (Ol w) [] (n+7) A env s₀ (some "result") s pe) (X:Y0 w g s₀ b 0 s) (hi:pe "i" = some (.fv (iv 0))) (hr:pe "result" = some (.list xs))
  (K:∀ s' pe',Fm w (Ol w) [] (n+7) A env s₀ (some "result") s' pe'→pe' "result" = some (.list (Th xs b pp rv M))→R (.ok .next) s') :
  codeAny (MD w) A (.forLoop (.Tuple [.Name "_" p1,.Name "g" p2] kk tp) (.ref g.gb) Q6 [] env) R s:=by
 refine codeAny_forLoop_any (fun k s'=>∃ t pe',k=M+1-t∧t≤M∧Fm w (Ol w) [] (n+7) A env s₀ (some "result") s' pe'∧Y0 w g s₀ b t s'∧pe' "i" = some (.fv (iv t))∧pe' "result" = some (.list (Th xs b pp rv t)))
  (fun k s' hI=>?_) (M+1) (Cz 0 pe rfl (Nat.zero_le _) F X hi hr)
 refine DT (hI) fun t pe' C Z G X' Y r=>?_;clear hI;obtain rfl:=C;refine Or.elim (Nat.lt_or_ge t M) (fun h=>?_) (fun a0=>?_)
 ·refine Tn (n:=n+3) O ht f h X' G.cx.ok fun P gr T cn ct s₁ d z m hP I fd=>Bj z fun sl o x=>?_;have S:T≠env.locals:=by
   refine Ft (G.ns) fun mm ob es ep e _=>?_;rintro rfl;injection (e.symm.trans fd)
  refine MR d.gi.a ?_;refine Om O v B p S (G.mv m x.Yy) d hP I fun CN E H J=>?_;refine AY (f.ops t h) fun hf o1 o2 o3=>?_;have W:(((pe'.set "_" (.raw (.int (g.a (b t)) (g.u (b t))))).set "g" (.raw (.ref gr))):PE) "i" = some (.fv (iv t)):=by refine Eq.trans ?_ Y;rfl
  have V:(((pe'.set "_" (.raw (.int (g.a (b t)) (g.u (b t))))).set "g" (.raw (.ref gr))):PE) "result" = some (.list (Th xs b pp rv t)):=by refine Eq.trans ?_ r;rfl
  refine Tg (q:=b (t+1)) (pp:=pp) (tt:=tt) O ht hN v B p (f.lt t h).1 (f.lt t h).2 (f.same t h) (f.stop t h) hy (fun k hk=>by refine AB (HX ..) ?_;exact U k hk) (by refine AB (HX ..) ?_;exact hz) o1 o2 o3 E H J rfl W V fun L8 l z L j i=>?_;exact(G6 (M+1-(t+1)) (Y' h) (t+1) l rfl h z (.inr ⟨Nat.succ_pos _,cn,ct,L⟩) j i)
 ·have Q:t=M:=Nat.le_antisymm Z a0;subst Q;refine V9 (n:=n+3) O f X' G.cx.ok fun s₁ z m=>Bj z fun sl o x=>?_;exact wpAny_execs_nil (K s₁ pe' (G.mv m x.Yy) r)
end
theorem YI:GV "itemgetter" (.ref 310):=BE fun z=>rfl
theorem Tp (S):peek (K0 P) S (keeperOf (.ref 310))=some .machine:=by kernel_rfl
theorem Tq (S):peek (K0 P) S (keeperOf (.ref 167))=some .machine:=by kernel_rfl
section
variable {w:Wd} {n:Nat} {A:Around} {E:Value→Shared→Prop} {s:Shared} {Q:Value→Shared→Prop}
theorem Ts (G:GH w s.heap) (i:BS w (n+2) A s)
  (k:∀ a h T s',Step w s s'→s.heap.get? a=none→s.heap.get? h=none→s.heap.get? T=none→Am s'.heap a h 310 #[some (.ref T)]→s'.heap.get? T=some (Ex #[v])→Q (.ref a) s'):wpAny (MD w) A (call (.ref 310) [v] []) Q E s:=by
 refine LA (m:=n+1) (fI:=285) (P:=fun c s'=>∃ T,c = #[some (.ref T)]∧s'.heap.get? T=some (Ex #[v])∧s.heap.get? T=none) G i (by kernel_rfl) (by kernel_rfl) (by kernel_rfl) (fun t w' s₁ a h r p q o b I d x j=>?_) fun a h c s' ⟨T,e,g,y⟩ x f fd I d=>?_
 ·exact MO (n:=n) o b I d fun T s' l g y=>j _ s' (Aj T rfl g (x.gone G y)) l
 ·subst e;exact k a h T s' x f fd y I g
set_option maxHeartbeats 1000000 in
theorem Tt {i:Addr} (G:GH w s.heap) (C:BS w (n+2) A s) (J:(D,seqObj "list" items c)∈w.led)
  (k:∀ b g e t u s',Step w s s'→s.heap.get? b=none→s.heap.get? g=none→s.heap.get? e=none→Am s'.heap b g 167 (Ah (.int 0 t) .none .none false false false (.ref e) (.ref i) (.int 0 u) .none)→s'.heap.get? e=some (DX D 0)→w.base.get? b=none→w.base.get? e=none→Q (.ref b) s') :
  wpAny (MD w) A (call (.ref 167) [.ref D] [("key",.ref i)]) Q E s:=by
 refine Gl (fI:=142) G C (by kernel_rfl) (by kernel_rfl) (by kernel_rfl) fun L w' s₁ z K l q I p h=>?_;subst z;have j:s.heap.get? (s.heap.objs.size+1)=none:=Heap.get?_none_of_le (Nat.le_succ _);have fd:s.heap.get? s.heap.objs.size=none:=fresh_at _;generalize s.heap.objs.size+1=a at *;generalize s.heap.objs.size=dx at *;have y:Am s₁.heap a dx 167 #[]:=⟨(q.led _ I.a).1,q.Bm _ I.d⟩
 refine MP (w:=w.wit ((a,AX 167 dx #[])::w.led) (dx::w.Bm)) (n:=n) ((h.gh G).add y) l.Bd.wit ⟨.head _,.head _⟩ p (List.mem_cons_of_mem _ J) fun e t u s' x H v r f=>⟨rfl,?_⟩
 have x:=x.Bd;have m:dx≠a:=by
  refine Ap (y.d) fun B o=>?_;exact BY o y.a (by simp)
 refine k a dx e t u s' (h.MJ G j y.a (AH _ _ _) x) j fd (h.gone G v) ⟨x.keep _ _ (HO G j) (fun Z=>(AH _ _ _).d1) (Bk y.a rfl),?_⟩ H p f;refine Ap (y.d) fun B o=>?_;refine Ap (x.EZ dx _ (((Heap.SameBut.update s₁.heap a fun Z=>AX 167 dx (Ah (.int 0 t) .none .none false false false (.ref e) (.ref i) (.int 0 u) .none)).2 _ m).trans o) (DB _ _ rfl)) fun sl' F=>?_;exact⟨sl',F⟩
variable {names:BC} {pe:PE} {env:Env}
theorem YJ {x:Str} {xp K M L kp:Pos} (C:Cx w names (n+2) A env s pe) (T:pe x=some (.raw (.ref D))) (hD:(D,seqObj "list" items c)∈w.led) (W:names.lookup "groupby" = some .globalImplicit) (R:names.lookup "itemgetter" = some .globalImplicit)
  (k:∀ p i o G d H z t u s',Step w s s'→s.heap.get? p=none→s.heap.get? i=none→s.heap.get? o=none→s.heap.get? d=none→Am s'.heap p i 167 (Ah (.int 0 t) .none .none false false false (.ref o) (.ref G) (.int 0 u) .none)→s'.heap.get? o=some (DX D 0)→
   Am s'.heap G d 310 #[some (.ref H)]→s'.heap.get? H=some (Ex #[.int 0 z])→w.base.get? p=none→w.base.get? o=none→Q (.ref p) s')
  (hd:autoParam ((x==("__debug__" : Str))=false) B8) (P:autoParam ((x==("__classdict__" : Str))=false) B8) :
  wpAny (MD w) A (eval (.Call (.Name "groupby" np) [.Name x xp] [⟨some "key",.Call (.Name "itemgetter" K) [.Constant (.int 0) kk M] [] L,kp⟩] pos) env) Q E s:=by
 refine GG C U3 W (fun S=>Tq S) rfl (nm:=["key"]) rfl ?_;refine AE (AA T hd P) AK rfl A env s _ _ E C fun vs s₁ y j=>?_;refine AF (BP j) fun v F O=>?_;clear j;obtain rfl:=F;obtain rfl:=O;have b:=C.step y;show wpAny (MD w) A (do let v ←(do let v ←eval (.Call (.Name "itemgetter" K) [.Constant (.int 0) kk M] [] L) env;standAt pos;pure v);return v::(←holding [v] (evalAll []))) _ E s₁;refine AD (AD (GG b YI R (fun S=>Tp S) rfl (nm:=[]) rfl ?_));refine AE (AV 0 _ _) AK rfl A env s₁ _ _ E b fun vs N a l=>?_;refine XC (BP l) fun v q z r=>?_;clear l;obtain rfl:=q;obtain rfl:=r;have e:=b.step a;refine AM ⟨e.gh,Ts (n:=n) e.gh e.ok fun G d H J m f1 Y f3 V hT=>?_⟩;have h:=e.step m;refine AD (wpAny_standAt (AM ?_));refine AD (wpAny_holding (AM (AM ⟨h.gh,?_⟩)));refine Tt (n:=n) h.gh h.ok hD fun p i o t u B g g1 g2 Z U hi X I=>?_;have f:=(y.trans a).trans m;exact k p i o G d H z t u B (f.trans g) (f.gone C.gh g1) (f.gone C.gh g2) (f.gone C.gh Z) ((y.trans a).gone C.gh Y) U hi (V.step g h.gh) (g.get h.gh hT (Ab rfl) (AG rfl)) X I
end
section
variable {w:Wd} {names:BC} {n:Nat} {pe:PE}
theorem Q7 {r:Str} {a:Pos} (g:Ev w names n pe e (.str q)):Tr w names n pe (.Compare e [.NotEq] [.Constant (.str r) kk a] pos) (q != r):=fun A env s Q E C k=>
 wpAny_isTrue_Compare1 (g A env s _ E C fun b s₁ x y=>Constant_str (by
  refine Ap (y) fun t h=>?_;clear y;obtain rfl:=h;exact ne_str (wpAny_truthy_bool (k _ (x.trans (Step.Bu s₁)))))) (by with_unfolding_all rfl)
theorem Plan.wd {w W:Wd} {g:GP} {M:Nat} {b:Nat→Nat} {k:Nat→FV} {e:Nat→UInt64} (p:Plan w g M b k e) (h:MD w=MD W):Plan W g M b k e:=
 ⟨p.b0,p.M0,p.bM,p.lt,p.same,p.stop,fun t y=>by
  refine AY (p.ops t y) fun x a b c=>?_;refine(Aj x ?_ ?_ ?_)
  ·unfold D2;refine Ar h ?_;exact a
  ·unfold D2;refine Ar h ?_;exact b
  ·unfold Q1;refine Ar h ?_;exact c⟩
noncomputable def Cp (w:Wd) (b:Bool) (ns:List Int) (iv0:FV) (res:List FV):Prop:=
 ∀ P,CG b ns P→∃ M bd iv rv,(∀ g:GP,g.N=ns.length→(∀ k,g.a k=ns.getD (P k) 0)→Plan w g M bd iv rv)∧iv 0=iv0∧Th (List.replicate ns.length (.int 0)) bd P rv M=res
set_option maxHeartbeats 4000000 in
theorem NK {ns:List Int} {fs iv0:FV} {res:List FV} (h2:2≤ns.length) (h6:ns.length≤6) (b4:D2 w .Sub fs (.int 1) iv0) (fy:Cp w b ns iv0 res) :
  Bo w (Ol w) [] (n+8) none (PE.sets (fun _=>none) [("data",.BN ns),("key",.fv .none),("reverse",.fv (.bool b)),("ties",.str "average"),("start",.fv fs)]) (Ag (BM 17)) (.ret (.list res)):=by
 refine AN C6 ?_;refine BW (An (Q7 (q:="average") (AA rfl)) (bne_self_eq_false' "average")) ?_;refine BW (An (GB (pv:=.fv .none) (AA rfl)) rfl) ?_;intro s₀ A env outer s Q E hf hl F k;refine wpAny_execs_cons (wpAny_Assign_Name (OY (n:=n) rfl rfl rfl rfl rfl h2 h6 F.cx fun D c ts vs P s₁ c0 fD hD H L fr tok=>?_) rfl);refine D5 (fy P H) fun M bd iv rv b3 f9 a6=>?_;have a0:=F.step c0
 have b0:∀ k,∃ r:Addr×Tok×Tok,k<ns.length→ts[k]? = some (.ref r.1)∧vs[P k]? = some (.int (ns.getD (P k) 0) r.2.1)∧s₁.heap.get? r.1=some (AU (.int (ns.getD (P k) 0) r.2.1) (.int (P k) r.2.2)):=fun k=>by
  by_cases m:k<ns.length
  ·refine BR (L.2 k m) fun T v u e1 e2 e3=>?_;refine AF (fr.get e2) fun f Z b6=>?_;have hP:=H.lt k m;rw [show(A5 ns)[P k]? = some (.int (ns.getD (P k) 0))from by unfold A5;rw [List.getElem?_map,List.getElem?_eq_getElem hP];simp [hP]]at Z;obtain rfl:=(Ai Z)
   refine Ap (b6) fun t' a9=>?_;clear b6;obtain rfl:=a9;exact⟨(T,t',u),fun _=>(B2 e1 e2 e3)⟩
  ·exact⟨(0,0,0),fun h=>absurd h m⟩
 refine Ap (Classical.skolem.mp b0) fun G J=>?_;have a8:∀ {b:Addr} (x:Str),(none:Option Str)=some x→¬AZ s₁.heap env x (.ref b):=fun x h=>by injection h
 refine AY (a0.Q4 ((D,seqObj "list" ts.toArray c)::(List.range ns.length).map fun k=>((G k).1,AU (.int (ns.getD (P k) 0) (G k).2.1) (.int (P k) (G k).2.2))) [] (fun p hp=>by
  refine Or.elim (List.mem_cons.mp hp) (fun c2=>?_) (fun hp=>?_)
  ·obtain rfl:=c2;exact(Ei hD (by intro h;injection h) (AG rfl) (fun v q=>by injection q) a8)
  ·refine AF (List.mem_map.mp hp) fun k m c3=>?_;clear hp;obtain rfl:=c3;exact(Ei ((J k (List.mem_range.mp m)).2.2) (by intro h;injection h) (AG rfl) (fun v q=>by injection q) a8)) (fun d hd=>by cases hd)) fun sA xA GA C=>?_
 generalize hW:w.add ((D,seqObj "list" ts.toArray c)::(List.range ns.length).map fun k=>((G k).1,AU (.int (ns.getD (P k) 0) (G k).2.1) (.int (P k) (G k).2.2))) []=W at C;have a7:W.w=w.w:=by refine Ar hW ?_;rfl
 have R:(D,seqObj "list" ts.toArray c)∈W.led:=by refine Ar hW ?_;exact D1
 have bE:∀ k,k<ns.length→((G k).1,AU (.int (ns.getD (P k) 0) (G k).2.1) (.int (P k) (G k).2.2))∈W.led:=fun k m=>by
  refine Ar hW ?_;exact List.mem_append_left _ (List.mem_cons_of_mem _ (List.mem_map.mpr (AQ k (List.mem_range.mpr m) rfl)))
 have hM:MD w=MD W:=by show model PR w.w=model PR W.w;refine AB a7 ?_;rfl
 have Yz:Ol w=Ol W:=by refine AB a7 ?_;rfl
 replace C:=Yz▸C;refine AB hM ?_;have bF:D2 W .Sub fs (.int 1) iv0:=by unfold D2;refine Ar hM ?_;exact b4
 have hsz:ts.toArray.size=ns.length:=L.1 ..;refine B4 (pv:=.raw (.ref D)) C (.inl rfl) rfl none (fun _ h=>by injection h) fun c1 b8 _ _ _=>?_;refine wpAny_execs_cons (Fo (own:=none) (pv:=.fv iv0) (AI (a:=fs) (AA rfl) (AV 1 _ _) bF) trivial (by exact Ne.symm (Option.some_ne_none (Str.ofString "i"))) (.inl rfl) (by intros;rfl) A env sA c1 _ _ b8 fun c5 a5=>?_);refine wpAny_execs_cons (Dz (own:=none) (Og rfl rfl R (by refine AB hsz ?_;exact AJ h6 (by decide))) (.inl rfl) (by intros;rfl) A env sA c5 _ _ a5 fun b7 y=>?_);replace y:=hsz▸y;refine wpAny_execs_cons (wpAny_For (YJ (n:=n+6) (D:=D) (items:=ts.toArray) (c:=c) y.cx rfl R rfl rfl fun gb A9 it ig ER IT z t u S' a3 f1 f2 f3 f4 Ig hi Ii hT f' aa=>?_));have B:=y.step a3;refine Tc (n:=n+7) B.cx.gh B.cx.ok Ig fun a4 l=>?_;have i:=B.step l;have o:=B.cx.gh;obtain⟨g,I⟩:∃ g:GP,g=⟨gb,A9,it,D,ig,ER,IT,ns.length,fun k=>(G k).1,fun k=>ns.getD (P k) 0,fun k=>(G k).2.1,fun k=>.int (P k) (G k).2.2,c,z⟩:=⟨_,rfl⟩
 have c4:g.Ia=ts.toArray:=by
  refine AB I ?_;unfold GP.Ia
  congr 1
  apply List.ext_getElem?;intro j;refine Or.elim (Nat.lt_or_ge j ns.length) (fun S=>?_) (fun S=>?_)
  ·rw [List.getElem?_map,List.getElem?_range S,(J j S).1];rfl
  ·rw [List.getElem?_eq_none (by simpa using S),List.getElem?_eq_none (by rw [L.1];exact S)]
 have Y:(g.D,seqObj "list" g.Ia g.c)∈W.led:=by refine AB c4 ?_;refine AB I ?_;exact R
 have gf:LY W g sA:=by
  refine AB I ?_;exact⟨i.g0,y.st.gone y.g0 f1,y.st.gone y.g0 f3,f',aa⟩
 have ht:g.tok:=by
  refine AB I ?_;intro j k S m;have a1:=List.mem_of_getElem? (J j S).2.1;have a2:=List.mem_of_getElem? (J k m).2.1;exact tok _ a1 _ a2 _ _ _ _ rfl rfl
 have b5:∀ d,b7.heap.get? d=none→d≠env.locals:=fun d h=>by
  refine Ft (y.ns) fun mm ob es ep e _=>?_;rintro rfl;injection (e.symm.trans h)
 have Ly:g.A9≠env.locals:=by refine AB I ?_;exact b5 _ f2
 have hd2:g.ER≠env.locals:=by refine AB I ?_;exact b5 _ f4
 have X:C' W g sA (g.Yx (.int 0 t) (.int 0 u)) (DX g.D 0) a4:=by
  have e1:=(i.cx.gh.led _ Y).1;rw [I]at e1 ⊢;exact⟨i.st,Ig.step l o,l.get o hi (BB _ _).nt (BB _ _).d1,BB _ _,rfl,e1,Ii.step l o,l.get o hT (Ab rfl) (AG rfl),fun k m=>(i.cx.gh.led _ (bE k m)).1⟩
 have U:g.N=ns.length:=congrArg _ I;have pl:=(b3 g U (fun k=>by refine AB I ?_;rfl)).wd hM;refine Ar (by exact congrArg _ I:g.gb=gb) ?_;refine To (n:=n+1) (pp:=P) (tt:=fun k=>(G k).2.2) (xs:=List.replicate ns.length (.int 0)) gf ht (by refine AB U ?_;exact AJ h6 (by decide)) Y Ly hd2 pl
  (fun k m=>by refine AB I ?_;rfl) (fun k m=>by refine AB List.length_replicate ?_;rw [U]at m;exact H.lt k m) (by refine AB List.length_replicate ?_;exact AJ h6 (by decide)) i (.inl (VP rfl _ _ _ X)) (by refine AB f9 ?_;rfl) rfl
  (fun b2 pe' K O=>?_)
 refine wpAny_execs_cons (wpAny_Return_some (AA (w:=W) (pv:=.list res) (by refine Eq.trans O ?_;refine AB a6 ?_;rfl) (by rfl) (by rfl) A env b2 _ E K.cx fun v b9 b1 V=>?_));exact k v b9 (xA.trans ((K.st.trans b1).base (by rw [←hW]:W.base=w.base))) V
end
section
variable {w:Wd} {n:Nat} {ns:List Int} {iv0:FV} {res:List FV}
theorem Q8 {y:Int} (l:2≤ns.length) (j:ns.length≤6) (x:Cp w b ns (.int (y-1)) res):Dm w (n+9) (.ref 321) [.BN ns] ["reverse","start"] [.fv (.bool b),.fv (.int y)] (.ret (.list res)):=by
 refine Jk (o:=Ed) (fd:=fdOf Ed) (body:=Ag (BM 17)) (bs:=[("data",.BN ns),("key",.fv .none),("reverse",.fv (.bool b)),("ties",.str "average"),("start",.fv (.int y))]) rfl rfl rfl rfl (fun vs ks h a g=>?_) (fun h G=>codeRec_of G.kin (by kernel_rfl)) (fun p f=>?_) (NK l j CL x) rfl rfl rfl rfl rfl rfl
 ·refine AF (BP a) fun v k c=>?_;clear a;obtain rfl:=k;refine AW (Bi g) fun q i e m d=>?_;clear g;obtain rfl:=e;obtain rfl:=m;exact⟨[("data",v),("key",.none),("reverse",.bool b),("ties",.str "average" 787),("start",i)],fun S=>rfl,rfl,c,rfl,rfl,⟨_,rfl⟩,d,trivial⟩
 ·exact locs (by rfl) p f
theorem Lb {x:UInt64} (i:2≤ns.length) (f:ns.length≤6) (y:Cp w false ns (.AS (Float64.sub x (Float64.ofInt 1))) res):Dm w (n+9) (.ref 321) [.BN ns] ["start"] [.fv (.AS x)] (.ret (.list res)):=by
 refine Jk (o:=Ed) (fd:=fdOf Ed) (body:=Ag (BM 17)) (bs:=[("data",.BN ns),("key",.fv .none),("reverse",.fv (.bool false)),("ties",.str "average"),("start",.fv (.AS x))]) rfl rfl rfl rfl (fun vs ks h a g=>?_) (fun h G=>codeRec_of G.kin (by kernel_rfl)) (fun p d=>?_) (NK i f (PY (by decide)) y) rfl rfl rfl rfl rfl rfl
 ·refine AF (BP a) fun v e c=>?_;clear a;obtain rfl:=e;refine AF (BP g) fun b k j=>?_;clear g;obtain rfl:=k;exact⟨[("data",v),("key",.none),("reverse",.bool false),("ties",.str "average" 787),("start",b)],fun S=>rfl,rfl,c,rfl,rfl,⟨_,rfl⟩,j,trivial⟩
 ·exact locs (by rfl) p d
end
end
section
open PySem PySem.W PySem.Calls PyProof.Rows PySem.Spec PySem.Builtin.Math Builtin Builtin.ObjectAttr
theorem Q9 {K:Frag} (X:K.In h) {x:Addr} {g a:Value} (e:findIn K (.ref C) name=some (some a)) (k:specialIn K a "__get__" = some (some g)) (hd:takesIn K a=some true):Looks M h (find (.ref x) (.ref C) name) (.bind g a):=by
 exact(looks_findIn (M:=M) X e).andThen ((looks_specialIn X k).andThen ((show Looks M h (dataDescriptor? (some a) (some g)) (some (g,a))from(looks_takesIn (M:=M) X hd).andThen .now).andThen (Looks.tag .now)))
section
variable {w:Wd} {A:Around} {E:Value→Shared→Prop} {s:Shared} {x:Addr} {name:Str} {expr:Bool} {Q:Value→Shared→Prop}
theorem V' {g a:Value} (G:GH w s.heap) (m:Looks (MD w) s.heap (typeOf (.ref x)) (.ref 417)) (B:Looks (MD w) s.heap (isInstance (.ref x) (.type "tuple")) true) (C:findIn (K0 w.w.params) (.ref 417) name=some (some a)) (I:specialIn (K0 w.w.params) a "__get__" = some (some g)) (hd:takesIn (K0 w.w.params) a=some true)
  (h:∀ l:Around,l=A.in1→wpAny (MD w) l (call g [a,.ref x,.ref 417]) (fun v s'=>wpAny (MD w) A (handedOut v) Q E s') (fun Z Z=>False) { s with toks:=s.toks+1 }) :
  wpAny (MD w) A (getAttr (.ref x) name expr) Q E s:=by
 have o:=looks_findIn (M:=MD w) G.kin (show findIn (K0 w.w.params) (.ref 417) "__getattribute__" = some (some (.builtin "tuple.__getattribute__")) by kernel_rfl);have r:=Q9 (M:=MD w) (x:=x) G.kin C I hd;have D:=looks_findIn (M:=MD w) G.kin (show findIn (K0 w.w.params) (.ref 417) "__getattr__" = some none by kernel_rfl);obtain⟨n,u,d,t,os⟩:=s;unfold getAttr getAttrBy;refine AD (wpAny_mkText (wpAny_holding (AD (m.at (AD (o.at ?_))))));show wpAny _ _ (getAttrByItsOwn _ _ _ _ _ _) _ _ _;unfold getAttrByItsOwn;refine AD ?_;show wpAny _ _ (typeLookup (.ref 417) "__getattr__") _ _ _;refine D.at (AD (wpAny_attempt (wpAny_holding ?_)))
 unfold callGetattribute;refine AB (if_neg (by simp [onTheHeap])) ?_;unfold boundAndCalled;refine AD ?_;refine AB (F.slot_tuple_getattribute.bind (.ref x)) ?_;refine AM ?_;refine wpAny_call (codeAny_call_builtin F.slot_tuple_getattribute.plain am_entry_tuple_getattribute ?_);have H:builtinKind "tuple.__getattribute__" = some .slot:=by rfl
 have j:splitId "tuple.__getattribute__" = some ("tuple","__getattribute__"):=by rfl
 simp only [checkBuiltinCall,H,j];refine AD (B.at ?_);simp only [Bool.not_true,Bool.false_eq_true,if_false];have b:=F.args_tuple_getattribute_2 (.ref x) (.str name t);have k:wpAny (MD w) A.in1 (Builtin.«object.__getattribute__» { pos:=[Value.ref x,Value.str name t] }) (fun k s'=>∃ v,k = .done (.ret v)∧wpAny (MD w) A (handedOut v) Q E s') (fun Z Z=>False) ⟨n,u,d,t+1,os⟩:=by
  show wpAny _ _ (typeOf (.ref x)>>=_) _ _ _;refine AD (m.at (AD (r.at ?_)));show wpAny _ _ (bindTo g a (.ref x) (.ref 417)) _ _ _;show wpAny _ _ (holding [a] (call g [a,.ref x,.ref 417])>>=ret) _ _ _;exact AD (wpAny_holding (wpAny_mono (h _ rfl) (fun v s' z=>AM (AQ v rfl z)) fun Z Z z=>z.elim))
 cases WA:Manifest.signature? "tuple.__getattribute__" with
 |none=>exact AM (wpAny_mono k (fun f s' i=>by refine AF (i) fun v c q=>?_;obtain rfl:=c;exact q) fun Z Z z=>z.elim)
 |some e=>
  simp only [argsOk,WA]at b;have p:Bind.checkArgs "tuple.__getattribute__" e ⟨[.ref x,.str name t],[]⟩=pure ():=b;show wpAny _ _ (Bind.checkArgs "tuple.__getattribute__" e ⟨[.ref x,.str name t],[]⟩) _ _ _;refine AB p ?_;exact AM (wpAny_mono k (fun f s' i=>by refine AF (i) fun v y q=>?_;clear i;obtain rfl:=y;exact q) fun Z Z z=>z.elim)
end
end
section
open PySem PySem.W PySem.Calls PyProof.Rows PySem.Spec PySem.Builtin.Math
theorem Oo (S):peek (K0 P) S (Builtin.«issubclass.nested» ⟨[.ref 417,.type "tuple",rawInt 0],[]⟩)=some (.done (.ret (.bool true))):=by kernel_rfl
theorem MS : Meets (Builtin.«issubclass» ⟨[.ref 417,.type "tuple"],[]⟩) (fun y R s=>(K0 P).In s.heap∧R (.ok (.ret (.bool true))) s):=
 fun y y y y y z=>Bt z fun X h=>issubclass_outer ((Looks.of_peek X (Oo _)).here h)
theorem NL:GV "issubclass" (.builtin "issubclass"):=Bp (fun z=>rfl) rfl (by decide)
section
variable {w:Wd} {A:Around} {E:Value→Shared→Prop} {s:Shared} {Q:Value→Shared→Prop}
theorem Oq (G:GH w s.heap) (h:Q (.bool true) s):wpAny (MD w) A (call (.builtin "issubclass") [.ref 417,.type "tuple"]) Q E s:=call_issubclass (MS (P:=w.w.params)) ⟨G.kin,h⟩
end
section
variable {w:Wd} {A:Around} {E:Value→Shared→Prop} {s:Shared} {Q:Value→Shared→Prop}
theorem JK {o:Obj} (G:GH w s.heap) (e:s.heap.get? a=some o) (n:o.cls = .ref 417) (hd:o.data = .seq items m) (j:items[i]? = some v) (u:i<1000) (h:Q v s) :
  wpAny (MD w) A (call (.builtin "tuple.__getitem__") [.ref a,.int i t]) Q E s:=by
 have p:Looks (MD w) s.heap (typeOf (.ref a)) (.ref 417):=by
  have:Looks (MD w) s.heap (typeOf (.ref a)) o.cls:=(Looks.ld e).andThen .now;rwa [n]at this
 refine wpAny_call (codeAny_call_builtin (by decide +kernel) entry_tuple_getitem ?_);have r:builtinKind "tuple.__getitem__" = some .slot:=by rfl
 have c:splitId "tuple.__getitem__" = some ("tuple","__getitem__"):=by rfl
 simp only [checkBuiltinCall,r,c];refine AD ((p.andThen (looks_mroIn G.kin (by kernel_rfl)):Looks (MD w) s.heap (isInstance (.ref a) (.type "tuple")) true).here ?_);simp only [Bool.not_true,Bool.false_eq_true,if_false];have l:=args_tuple_getitem (.ref a) (.int i t);have k:wpAny (MD w) A.in1 (Builtin.«tuple.__getitem__» { pos:=[Value.ref a,Value.int (↑i) t] }) (fun k s'=>∃ v,k = .done (.ret v)∧Q v s') E s:=by
  have b:i<items.size:=by
   refine Or.elim (Nat.lt_or_ge i items.size) (fun h=>?_) (fun h=>?_)
   ·exact h
   ·injection ((Array.getElem?_eq_none h).symm.trans j)
  show wpAny _ _ (Builtin.Tuple.tupleItemsOf (.ref a)>>=_) _ _ s;refine AD (wpAny_tupleItemsOf e hd ?_);refine AD (wpAny_typeOf (typeIs_int s i t) ?_);have B:seqIndex? (i:Int) items.size=some i:=by simp [seqIndex?];exact Ww b
  refine AB (if_neg (by decide)) ?_;refine AD (wpAny_specialOf (T:="int") (typeIs_int s i t) int_index ?_);refine AB (if_neg (ne_true_of_eq_false rfl)) ?_;refine AD (wpAny_of_eq (a:=(i:Int)) rfl ?_);refine AB (if_neg (by simp only [Bool.or_eq_true,decide_eq_true_eq];exact Zg u)) ?_;simp only [B,Option.bind_some,j];exact AM (AQ _ rfl h)
 cases WA:Manifest.signature? "tuple.__getitem__" with
 |none=>exact AM (wpAny_mono k (fun f s' g=>by refine AF (g) fun v y q=>?_;obtain rfl:=y;exact q) fun Z Z z=>z)
 |some d=>
  simp only [argsOk,WA]at l;show wpAny _ _ (Bind.checkArgs "tuple.__getitem__" d ⟨[.ref a,.int i t],[]⟩) _ _ s;refine AB l ?_;exact AM (wpAny_mono k (fun f s' g=>by refine AF (g) fun v x q=>?_;clear g;obtain rfl:=x;exact q) fun Z Z z=>z)
end
section
variable {w:Wd} {names:BC} {n:Nat} {pe:PE}
theorem Ot {x:Str} {a:Pos} (y:pe x=some (.raw (.ref 409))) (hd:autoParam ((x==("__debug__" : Str))=false) B8) (g:autoParam ((x==("__classdict__" : Str))=false) B8):Ev w names n pe (.Attribute (.Name x np) "index" a) (.raw (.int 0 953)):=fun A env s Q E C k=>
 Attribute_Name_ (AA y hd g A env s _ E C fun u s₁ h e=>by
  obtain rfl:=e;have G:=(C.step h).gh;exact get_value G.kin (⟨G.kin 409 _ rfl,rfl,rfl,G.kin 408 _ rfl⟩:InstAt s₁.heap 409 Ud 88 (some (Ub w.w.params))) (by kernel_rfl) (by kernel_rfl) rfl (k _ _ (h.trans (Step.Bu s₁)) rfl))
theorem Ou {x:Str} {a:Pos} (y:pe x=some (.raw (.ref 412))) (hd:autoParam ((x==("__debug__" : Str))=false) B8) (g:autoParam ((x==("__classdict__" : Str))=false) B8):Ev w names n pe (.Attribute (.Name x np) "index" a) (.raw (.int 1 963)):=fun A env s Q E C k=>
 Attribute_Name_ (AA y hd g A env s _ E C fun u s₁ h e=>by
  refine AB e ?_;have G:=(C.step h).gh;exact get_value G.kin (⟨G.kin 412 _ rfl,rfl,rfl,G.kin 411 _ rfl⟩:InstAt s₁.heap 412 Ue 88 (some (Uc w.w.params))) (by kernel_rfl) (by kernel_rfl) rfl (k _ _ (h.trans (Step.Bu s₁)) rfl))
end
section
variable {w:Wd} {names:BC} {n:Nat} {pe:PE} {x y:UInt64}
theorem Lc:Hl w n (.type "type") [.line x y] [] [] (.raw (.ref 417)):=fun A s Q E vs ks G f r b k=>by
 obtain⟨v,h,a,o,t,u,m,g,e,c,_,d⟩:=BP r;clear r;obtain rfl:=h;obtain rfl:=g;obtain rfl:=A6 b;exact Ez e c (k _ _ (Step.refl w s) rfl)
theorem NN:Hl w n (.builtin "issubclass") [.raw (.ref 417),.raw (.type "tuple")] [] [] (.fv (.bool true)):=fun A s Q E vs ks G b r g k=>by
 refine AW (Bi r) fun v u h e a=>?_;clear r;obtain rfl:=h;obtain rfl:=A6 g;obtain rfl:=e;obtain rfl:=a;exact Oq G (k _ _ (Step.refl w s) rfl)
end
theorem MT : findCls (K0 P) (.type "tuple") (.type "type") "__getitem__" = some (.val (.builtin "tuple.__getitem__")):=by kernel_rfl
section
variable {w:Wd} {names:BC} {n:Nat} {pe:PE} {x y:UInt64}
theorem NO {a b:Str} {D G z t j:Pos} {q:Tok} {f:UInt64} (N:names.lookup "tuple" = some .globalImplicit) (K:pe a=some (.line x y)) (P:Ev w names n pe (.Attribute (.Name b z) "index" t) (.raw (.int i q))) (B:([x,y]:List UInt64)[i]? = some f) (O:(D.endLine==j.line)=true)
  (hd:autoParam ((a==("__debug__" : Str))=false) B8) (I:autoParam ((a==("__classdict__" : Str))=false) B8) :
  Ev w names n pe (.Call (.Attribute (.Name "tuple" np) "__getitem__" D) [.Name a G,.Attribute (.Name b z) "index" t] [] j) (.fv (.AS f)):=fun A env s Q E C k=>by
 have r:methodCallPos true (.Name "tuple" np) env D j=pure j:=if_pos O;refine AB (arm_eval_Call ..) ?_;refine AB (rfl:attributeBase (.Name "tuple" np) "__getitem__" env (eval (.Name "tuple" np) env)=eval (.Name "tuple" np) env) ?_;refine AD (BF C Ew N ?_);refine AD (wpAny_standAt ?_);refine AB (show methodCallForm (([.Name a G,.Attribute (.Name b z) "index" t]:List Expr).length+([]:List Keyword).length) (backTo j (starEach [.Name a G,.Attribute (.Name b z) "index" t] env)) (backToKw j (keywordEach [] env))=true from rfl) ?_;refine AD (wpAny_holding (GD (T:="tuple") (name:="__getitem__") (v:=.builtin "tuple.__getitem__") C.gh.kin ty_tuple H5 MT rfl ?_));refine AD (wpAny_of_eq r ?_);have F:=C.step (Step.Bu s);refine callWith_builtin_kwB rfl rfl (Ae rfl rfl ?_);refine AE (AA K hd I) (AE P AK) rfl A env _ _ _ E F fun vs s₁ h g=>AM ?_;refine AW (Bi g) fun v u p H M=>?_;clear g;obtain rfl:=p;obtain rfl:=M;refine DC (H) fun R o J L m l e c Z d=>?_;obtain rfl:=l;rcases i with _ | _ | i
 ·obtain rfl:=(Ai B);exact JK (F.step h).gh e c d (v:=.float x (J+1)) rfl (Nat.succ_pos _) (k _ _ ((Step.Bu s).trans h) ⟨_,rfl⟩)
 ·obtain rfl:=(Ai B);exact JK (F.step h).gh e c d (v:=.float y (L+1)) rfl (Nat.le_add_left _ _) (k _ _ ((Step.Bu s).trans h) ⟨_,rfl⟩)
 ·injection B
end
section
variable {w:Wd} {n:Nat} {x y:UInt64}
theorem Tu:Dm w (n+1) (.ref 71) [.raw (.ref 409),.line x y,.raw (.ref 417)] [] [] (.ret (.fv (.AS x))):=by
 refine Jk (o:=O7) (fd:=fdOf O7) (body:=Ag (BQ 3 1)) (bs:=[("self",.raw (.ref 409)),("obj",.line x y),("objtype",.raw (.ref 417))]) rfl rfl rfl rfl (fun vs ks h g l=>?_) (fun h G=>codeRec_of G.kin (by kernel_rfl)) (fun p d=>?_) ?_ rfl rfl rfl rfl rfl rfl
 ·obtain⟨v,vs,rfl,c,a⟩:∃ v e,vs=v::e∧BA h (.raw (.ref 409)) v∧Bs h [.line x y,.raw (.ref 417)] e:=by
   induction vs with
   |nil=>exact g.elim
   |cons v vs=>exact(Bl v vs rfl g.1 g.2)
  refine AW (Bi a) fun b m k j q=>?_;clear g a;obtain rfl:=k;obtain rfl:=A6 l;exact⟨[("self",v),("obj",b),("objtype",m)],fun S=>rfl,rfl,c,j,q,trivial⟩
 ·exact locs (by rfl) p d
 ·refine BW (An (C7 (pv:=.line x y) (AA rfl)) rfl) ?_;refine BW (An (Bn (Az (f:=.bool true) (BG NL rfl (nm:=[]) rfl rfl (AE (Eo GF rfl (nm:=[]) rfl rfl (AE (AA rfl) AK) Ad Lc) (AE (FG Ew rfl) AK)) Ad NN))) rfl) ?_;exact CA (NO (i:=0) rfl rfl (Ot rfl) rfl rfl)
theorem Tv:Dm w (n+1) (.ref 71) [.raw (.ref 412),.line x y,.raw (.ref 417)] [] [] (.ret (.fv (.AS y))):=by
 refine Jk (o:=O7) (fd:=fdOf O7) (body:=Ag (BQ 3 1)) (bs:=[("self",.raw (.ref 412)),("obj",.line x y),("objtype",.raw (.ref 417))]) rfl rfl rfl rfl (fun vs ks h g l=>?_) (fun h G=>codeRec_of G.kin (by kernel_rfl)) (fun p d=>?_) ?_ rfl rfl rfl rfl rfl rfl
 ·obtain⟨v,vs,rfl,c,a⟩:∃ v e,vs=v::e∧BA h (.raw (.ref 412)) v∧Bs h [.line x y,.raw (.ref 417)] e:=by
   induction vs with
   |nil=>exact g.elim
   |cons v vs=>exact(Bl v vs rfl g.1 g.2)
  refine AW (Bi a) fun b m k j q=>?_;clear g a;obtain rfl:=k;obtain rfl:=A6 l;exact⟨[("self",v),("obj",b),("objtype",m)],fun S=>rfl,rfl,c,j,q,trivial⟩
 ·exact locs (by rfl) p d
 ·refine BW (An (C7 (pv:=.line x y) (AA rfl)) rfl) ?_;refine BW (An (Bn (Az (f:=.bool true) (BG NL rfl (nm:=[]) rfl rfl (AE (Eo GF rfl (nm:=[]) rfl rfl (AE (AA rfl) AK) Ad Lc) (AE (FG Ew rfl) AK)) Ad NN))) rfl) ?_;exact CA (NO (i:=1) rfl rfl (Ou rfl) rfl rfl)
end
section
variable {w:Wd} {names:BC} {n:Nat} {pe:PE} {x y:UInt64}
theorem JL {a:Str} {H:Pos} {f:UInt64} (J:pe a=some (.line x y)) (L:findIn (K0 w.w.params) (.ref 417) name=some (some (.ref d))) (M:specialIn (K0 w.w.params) (.ref d) "__get__" = some (some (.ref 71))) (B:takesIn (K0 w.w.params) (.ref d)=some true)
  (G:Dm w (n+1) (.ref 71) [.raw (.ref d),.line x y,.raw (.ref 417)] [] [] (.ret (.fv (.AS f)))) (K:autoParam ((a==("__debug__" : Str))=false) B8) (I:autoParam ((a==("__classdict__" : Str))=false) B8):Ev w names (n+2) pe (.Attribute (.Name a np) name H) (.fv (.AS f)):=fun A env s Q E C k=>
 Attribute_Name_ (AA J K I A env s _ E C fun u s₁ i g=>by
  have h:=C.step i;refine DC (g) fun z o N P m l e c Z R=>?_;obtain rfl:=l;have D:Looks (MD w) s₁.heap (typeOf (.ref z)) (.ref 417):=by
   have:Looks (MD w) s₁.heap (typeOf (.ref z)) o.cls:=(Looks.ld e).andThen .now;rwa [c]at this
  have b:=h.step (Step.Bu s₁);refine V' h.gh D (D.andThen (looks_mroIn h.gh.kin (by kernel_rfl))) L M B fun O r=>?_;subst r;refine G A.in1 _ _ _ [.ref d,.ref z,.ref 417] [] b.gh b.ok.in1 (EX rfl (g.step (Step.Bu s₁) h.gh) rfl trivial) trivial fun v F p j=>?_;refine Ap (j) fun t q=>?_;clear j;obtain rfl:=q;exact AM (k _ _ ((i.trans (Step.Bu s₁)).trans p) ⟨t,rfl⟩))
theorem RA {a:Str} {k:Pos} (e:pe a=some (.line x y)) (g:autoParam ((a==("__debug__" : Str))=false) B8) (h:autoParam ((a==("__classdict__" : Str))=false) B8):Ev w names (n+2) pe (.Attribute (.Name a np) "slope" k) (.fv (.AS x)):=JL e (by kernel_rfl) (by kernel_rfl) (by kernel_rfl) Tu g h
theorem Tw {a:Str} {k:Pos} (e:pe a=some (.line x y)) (g:autoParam ((a==("__debug__" : Str))=false) B8) (h:autoParam ((a==("__classdict__" : Str))=false) B8):Ev w names (n+2) pe (.Attribute (.Name a np) "intercept" k) (.fv (.AS y)):=JL e (by kernel_rfl) (by kernel_rfl) (by kernel_rfl) Tv g h
end
theorem JM {x a b:Str} {f:Addr} {o:Obj} {pa pb:PV} {out:Out} (g:GV x (.ref f)) (j:names.lookup x=some .globalImplicit)
  (i:(K0 w.w.params).lookup f=some o) (h:o.data = .func fd) (m:pe a=some pa) (l:pe b=some pb) (d:Dm w n (.ref f) [pa,pb] [] [] out)
  (hd:autoParam ((x==("__debug__" : Str))=false) Dy) (e:autoParam ((a==("__debug__" : Str))=false) Dy) (c:autoParam ((a==("__classdict__" : Str))=false) Dy) (k:autoParam ((b==("__debug__" : Str))=false) Dy) (y:autoParam ((b==("__classdict__" : Str))=false) Dy) :
  Kt w names n pe (.Call (.Name x np) [.Name a p1,.Name b p2] [] pos) out:=Bb g j i h rfl (nm:=[]) rfl (AE (AA m e c) (AE (AA l k y) AK)) Ad d hd
theorem WB:GV "linear_regression" (.ref 426):=BE fun z=>rfl
theorem Ld:GV "_law_line" (.ref 440):=BE fun z=>rfl
theorem RB:GV "covariance" (.ref 343):=BE fun z=>rfl
theorem Le:GV "fmean" (.ref 329):=BE fun z=>rfl
theorem NP:GV "correlation" (.ref 349):=BE fun z=>rfl
theorem J0:GV "_rank" (.ref 321):=BE fun z=>rfl
theorem Lf:GV "_law_agree" (.ref 445):=BE fun z=>rfl
noncomputable def YK:Out→List FV
 |.ret (.line a b)=>[.AS a,.AS b]
 |_=>[.none,.none]
noncomputable def NQ (xb yb Xt Vw:UInt64):List FV:=
 if Float64.isZero Vw then [.none,.none]else [.AS (Float64.div Xt Vw),.AS (Float64.sub yb (Float64.mul (Float64.div Xt Vw) xb))]
set_option tactic.hygienic true in
theorem RC {s:UInt64} {t z:Bc} (hl:xs.length=ys.length) (I:2≤xs.length) (M:xs.length≤1000) (H:∀ f∈xs,F9 f) (K:∀ f∈ys,F9 f) (B:DM xs=some s) (A:DM ys=some yb)
  (C:Eu (xs.map (B5 s)) (ys.map (B5 yb)) z3=some t) (D:Eu (xs.map (B5 s)) (xs.map (B5 s)) z3=some z) :
  Dm w (n+6) (.ref 440) [.list xs,.list ys] [] [] (.ret (.list (NQ s yb (OM t) (CO z)))):=by
 have k:=Vx (w:=w) (n:=n) hl I M H K B A C D;have d:∀ out,Dm w (n+3) (.ref 426) [.list xs,.list ys] [] [] out→(∀ cls,out = .exc cls→cls = .ref 102)→∀ (m:List FV),YK out=m→(∃ a b,out = .ret (.line a b))∨(∃ c,out = .exc c)→Dm w (n+6) (.ref 440) [.list xs,.list ys] [] [] (.ret (.list m)):=fun out k g m i x=>by
  refine Jk (o:=Io) (fd:=fdOf Io) (body:=Ag (BM 26)) (bs:=[("over",.list xs),("column",.list ys)]) rfl rfl rfl rfl (fun vs ks h E J=>?_) (fun h G=>codeRec_of G.kin (by kernel_rfl)) (fun p F=>?_) ?_ rfl rfl rfl rfl rfl rfl
  ·refine AW (Bi E) fun v u y t z=>?_;clear E;obtain rfl:=y;obtain rfl:=A6 J;exact⟨[("over",v),("column",u)],fun S=>rfl,rfl,t,z,trivial⟩
  ·simp only [List.mem_cons,List.not_mem_nil,or_false]at F;rcases F with rfl | rfl<;>exact .inr ⟨DI rfl,rfl⟩
  ·refine AN (AL (pv:=N6 out) (Pq (n:=n+3) (c:=439) (P:=435) (q:="_law_line.<locals>.<lambda>") rfl Sb (by kernel_rfl) (fun _=>rfl) rfl (by rfl) rfl rfl rfl (fun _ _ _ _=>rfl)
    (fun L=>JM WB rfl rfl rfl rfl rfl k) g) (.inl rfl)) ?_
   refine Or.elim x (fun j=>?_) (fun l=>?_)
   ·refine Bj (j) fun a b y=>?_;clear j g x;obtain rfl:=y;obtain rfl:=i;exact CA (Kh (b:=false) (An (C7 (pv:=.line a b) (AA rfl)) rfl) (fun h=>by injection h) fun _=>(BH (fs:=[.AS a,.AS b]) (AE (RA rfl) (AE (Tw rfl) AK)) (hl:=by(expose_names;exact fit_le h))).ev)
   ·refine Ap (l) fun c r=>?_;clear g l x;obtain rfl:=r;obtain rfl:=i;exact CA (Kh (b:=true) (An (C7 (pv:=.fv .none) (AA rfl)) rfl) (fun _=>(BH (fs:=[.none,.none]) (AE (Bw _ _) (AE (Bw _ _) AK))).ev) fun h=>by injection h)
 unfold Vv at k;unfold NQ;split
 ·rename_i h;replace k:=(if_pos h)▸k;exact d _ k (fun c e=>by obtain rfl:=(Internal.Out.exc.inj e);rfl) _ rfl (.inr ⟨_,rfl⟩)
 ·rename_i h;replace k:=(if_neg h)▸k;exact d _ k (fun c e=>by injection e) _ rfl (.inl (DB _ _ rfl))
section
variable {w:Wd} {A:Around} {E:Value→Shared→Prop} {s:Shared}
theorem RD {p q:UInt64} {Q:Bool→Shared→Prop} (G:GH w s.heap) (k:∀ r,Q r s):wpAny M A (isSame (.float p (t+1)) (.float q (u+1))) Q E s:=by
 show wpAny _ _ (isSame.created (p==q && !Float64.isNaN p) (t+1) (u+1)) _ _ _;unfold isSame.created;refine AB (if_neg (ne_true_of_eq_false rfl)) ?_
 by_cases e:(t+1==u+1)=true
 ·refine AB (if_pos e) ?_;exact AM (k _)
 ·refine AB (if_neg e) ?_
  by_cases y:(!(p==q && !Float64.isNaN p))=true
  ·refine AB (if_pos y) ?_;exact AM (k _)
  ·refine AB (if_neg y) ?_;refine AF (G.told) fun d c b=>?_;have x:∀ (t:Tok) {a:Type} (f:Bool→Sem a) (g:a→Shared→Prop),wpAny M A (f false) g E s→wpAny M A (sharingNotTold t>>=f) g E s:=fun t a f g h=>by
    unfold sharingNotTold;refine AD (AD (wpAny_nsGet c ?_));refine AB b ?_;exact AM h
   refine x _ _ _ ?_;refine x _ _ _ ?_;refine AD (wpAny_rule ?_);refine AD (wpAny_askSetting ?_);exact AM (k _)
theorem RE {x:UInt64} (G:GH w s.heap) (h:Float64.cmp x y=some .eq):SeqAt.EqAt A s (.float x (t+1)) (.float y (u+1)) true:=fun prog W E Q k=>by
 refine wpAny_holding ?_;refine wpAny_ite_split (fun e=>AD (wpAny_rule (AM k))) (fun z=>?_);refine AD (RD G fun r=>?_)
 induction r with
 |true=>exact AM k
 |false=>
  refine AD (richCompare_gives (op:=.Eq) (AutoFloatOps.typeIs_float s x (t+1)) (AutoFloatOps.typeIs_float s y (u+1)) F.slot_float_eq F.entry_float_eq (F.args_float_eq_2 _ _) (AutoFloatG5.float___eq___float_float_0 x (t+1) y (u+1)) (fun x=>nomatch x) ?_);refine wpAny_truthy_bool ?_;refine AB h ?_;exact k
noncomputable def Tz:FV→FV→Prop
 |.none,.none=>True
 |.AS x,.AS y=>Float64.cmp x y=some .eq
 |_,_=>False
theorem T1 {g:FV} {u:Value} (G:GH w s.heap) (e:BZ f v) (k:BZ g u) (h:Tz f g):SeqAt.EqAt A s v u true:=by
 induction f with
 |none=>induction g with
  |none=>refine AB e ?_;refine AB k ?_;exact .same _
  |_=>exact h.elim
 |AS x=>induction g with
  |AS y=>obtain⟨t,rfl⟩:=e;obtain⟨u,rfl⟩:=k;exact RE G h
  |_=>exact h.elim
 |bool=>cases g<;>exact h.elim
 |int=>cases g<;>exact h.elim
inductive HE:List FV→List FV→Prop
 |nil:HE [] []
 |cons {f g:FV} {fs gs:List FV} : Tz f g→HE fs gs→HE (f::fs) (g::gs)
theorem HE.length (h:HE fs gs):fs.length=gs.length:=by
 induction h with
 |nil=>rfl
 |cons _ _ k=>exact Nat.succ_inj.mpr k
theorem HE.get (h:HE fs gs) {g:FV} (k:fs[i]? = some f) (e:gs[i]? = some g):Tz f g:=by
 induction h generalizing i with
 |nil=>injection k
 |cons a b x=>induction i with
  |zero=>simp at k e;subst k e;exact a
  |succ i=>simp at k e;exact x k e
end
section
variable {w:Wd} {names:BC} {n:Nat} {pe:PE}
theorem Lg (h:BS w n A s):A.units<cLine:=by
 have:=h.u;unfold cLine;exact Nat.lt_of_le_of_lt (ZQ this) (DY rfl)
theorem RF {l r:Expr} (hl:Ev w names n pe l (.list xs)) (F:Ev w names n pe r (.list ys)) (m:HE xs ys) (J:autoParam (behindInMarks .Eq r=false) Y7) :
  Ev w names n pe (.Compare l [.Eq] [r] pos) (.fv (.bool true)):=fun A env s Q E C k=>
 wpAny_Compare1 (hl A env s _ E C fun L s₁ h p=>F A env s₁ _ E (C.step h) fun O u x o=>by
  have y:=(C.step h).step x;refine AW (p.step x (C.step h).gh) fun a K c la q=>?_;clear p;obtain rfl:=c;refine AW (o) fun b B d I t=>?_;clear o;obtain rfl:=d;refine SeqAt.eq_listAt (e:=fun Z=>true) la I (by simpa using by refine Eq.trans q.length ?_;refine Eq.trans ?_ t.length.symm;refine Eq.trans m.length ?_;rfl) (Lg y.ok) (fun j N M=>?_) (by
   refine AB (List.all_eq_true.mpr fun Z Z=>rfl) ?_;exact k _ _ (h.trans x) rfl)
  refine AF (q.get (i:=j) (v:=K.toArray[j]) (by simp)) fun f D z=>?_;refine AF (t.get (i:=j) (v:=B.toArray[j]) (by simp)) fun g H G=>?_;exact T1 y.gh z G (m.get D H)) J
end
section
variable {w:Wd} {names:BC} {n:Nat} {pe:PE}
theorem WC {l:Expr} {r:Pos} (hl:Ev w names n pe l (.list [])):Tr w names n pe (.Compare l [.NotEq] [.List [] r] pos) false:=fun A env s Q E C k=>
 wpAny_isTrue_Compare1 (hl A env s _ E C fun v s₁ h i=>(BH (fs:=[]) AK).ev A env s₁ _ E (C.step h) fun B m x d=>by
  refine AW (i.step x (C.step h).gh) fun a D y la o=>?_;clear i;obtain rfl:=y;refine AW (d) fun b z g q p=>?_;clear d;obtain rfl:=g;have c:=o.length;have f:=p.length;refine SeqAt.RcNeAt.lists (e:=fun Z=>true) la q (by simp at c f;refine AB c ?_;refine AB f ?_;rfl) (Lg ((C.step h).step x).ok) (fun j t u=>by simp [c]at t) _ _ _ _ (wpAny_truthy_bool ?_);refine AB (List.all_eq_true.mpr fun Z Z=>rfl) ?_;exact k _ (h.trans x)) (by with_unfolding_all rfl)
theorem HE.fl (h:HE fs gs):∀ f∈fs,f = .none∨∃ x,f = .AS x:=by
 induction h with
 |nil=>exact Dh
 |@cons f g fs gs a b y=>
  intro u e;refine Or.elim (List.mem_cons.mp e) (fun k=>?_) (fun e=>?_)
  ·obtain rfl:=k;induction u with
   |none=>exact .inl rfl
   |AS x=>exact .inr ⟨x,rfl⟩
   |bool=>cases g<;>exact a.elim
   |int=>cases g<;>exact a.elim
  ·exact y u e
noncomputable def U8:FV→Bool
 |.none=>true
 |_=>false
theorem HF (hl:Ev w names n pe e (.fv f)):Tr w names n pe (.Compare e [.IsNot] [.Constant .none kk np] pos) (!U8 f):=by
 have:=GB (pos:=pos) (kk:=kk) (np:=np) hl rfl;cases f<;>exact this
end
theorem Lh (h:HE xs ys) (d:xs.length≤1000):Dm w (n+1) (.ref 445) [.list xs,.list ys] [] [] (.ret (.fv (.bool true))):=by
 refine Jk (o:=KZ) (fd:=fdOf KZ) (body:=Ag (BM 27)) (bs:=[("told",.list xs),("due",.list ys)]) rfl rfl rfl rfl (fun vs ks h y i=>?_) (fun h G=>codeRec_of G.kin (by kernel_rfl)) (fun p j=>?_) ?_ rfl rfl rfl rfl rfl rfl
 ·refine AW (Bi y) fun v u k c l=>?_;clear y;obtain rfl:=k;obtain rfl:=A6 i;exact⟨[("told",v),("due",u)],fun S=>rfl,rfl,c,l,trivial⟩
 ·exact locs (by rfl) p j
 ·refine Pg (CA (H7 (a:=true) (b:=true) (RF (AA rfl) (AA rfl) h) fun z=>M' (RF (xs:=[]) (ys:=[]) ?_ (BH (fs:=[]) AK).ev .nil))) rfl;refine FD.ev (CH (Mq (xs:=xs) (p:=fun f=>(!U8 f)&&(Js f&&true)) (g:=fun f=>f) (AA rfl) (.inl rfl) rfl rfl rfl (by decide) rfl (fun f e=>FC (DO (HF (AA rfl)) fun z=>DO (JA rfl rfl (AA rfl)) fun z=>G8)) (fun f e z=>AA rfl) d) ?_);refine Eq.trans (List.map_id' ..) ?_;refine List.filter_eq_nil_iff.mpr fun f e=>?_;rcases h.fl f e with rfl | ⟨x,rfl⟩<;>exact ne_true_of_eq_false rfl
section
variable {w:Wd} {s₀ s:Shared} {D:Addr} {S:Str→Bool} {m:Nat} {A:Around} {E:Value→Shared→Prop}
theorem Li {t:Nat} (x:Step w s₀ s) (G:GH w s₀.heap) (f:s₀.heap.get? D=none) (h:s.heap.SetOf (PySem.strKind PR w.w) D S m) (k:Heap.SameBut D s.heap h') (y:autoParam (s.toks≤t) Nt):Step w s₀ { s with heap:=h',toks:=t }:=by
 refine Ax (h) fun o es g tt e z d z=>?_;exact x.write G k f e (fun vs q=>by injection (d.symm.trans q)) y
theorem NR {Q:Bool→Shared→Prop} (x:Step w s₀ s) (G:GH w s₀.heap) (f:s₀.heap.get? D=none) (e:s.heap.SetOf (PySem.strKind PR w.w) D S m) (g:m<100)
  (k:∀ b s',Step w s₀ s'→s'.heap.SetOf (PySem.strKind PR w.w) D (fun r=>S r||decide (r=q)) (if S q then m else m+1)→Q b s'):wpAny (MD w) A (setAdd D (.str q t)) Q E s:=by
 unfold setAdd;refine wpAny_holding (AD ((PySem.strKind PR w.w).pyHash (strKind_is _ _ _ _) ?_));exact wpAny_setAddHashed_of (s:={ s with toks:=s.toks+1 }) (strKind_is _ _ _ _) rfl e (Nat.lt_of_lt_of_le (Nat.succ_lt_succ g) (by decide)) fun h' y h=>k _ _ (Li (s:={ s with toks:=s.toks+1 }) (x.trans (Step.Bu s)) G f e y) h
theorem Ov {Q:Unit→Shared→Prop} (x:Step w s₀ s) (G:GH w s₀.heap) (f:s₀.heap.get? D=none) (d:s.heap.SetOf (PySem.strKind PR w.w) D S m) (p:m<100)
  (k:∀ s',Step w s₀ s'→s'.heap.SetOf (PySem.strKind PR w.w) D S m→Q () s'):wpAny (MD w) A (setUnled D) Q E s:=by
 refine FY (d) fun o es l t e a hd b g h i j=>?_;have c:({ t with led:=false } : SetTable).fits es.size=true:=by cases t;exact i
 refine AD (wpAny_setState_of e hd i ?_);refine wpAny_storeSet_of e hd ?_ (fits_of_scanBound h);refine Bt (SetOf_store (knd:=PySem.strKind PR w.w) e a hd b g h c) fun z y=>?_;rw [j]at y;exact k _ (Li (t:=s.toks) x G f d (Heap.SameBut.update s.heap D (Obj.putSet es { t with led:=false }))) y
end
section
variable {w:Wd} {names:BC} {n:Nat} {pe:PE}
theorem Lj {j o:Str} {p u:Nat} {l:Pos} (J:Ev w names n pe e (.str q)) (I:kdsCode (K0 w.w.params) names.cd=true) (H:behindInMarks .NotIn (.Set [.Constant (.str j) p p1,.Constant (.str o) u p2] 0 l)=true) :
  Tr w names n pe (.Compare e [.NotIn] [.Set [.Constant (.str j) p p1,.Constant (.str o) u p2] 0 l] pos) (!(false||decide (q=j)||decide (q=o))):=fun A env s Q E C k=>
 kdi_test H (J A env s _ E C fun M s₁ x K=>by
  obtain⟨t,rfl⟩:=K;have h:=C.step x;refine AB (arm_eval_Set ..) ?_;refine AD (wpAny_standAt (AD (kds_main h.gh.kin (by refine AB h.eo.cd ?_;exact I) fun b=>?_)));refine AB (kds_star _ rfl) ?_;refine AB List.map_map ?_;refine kds_core (ts:=(evalEach [.Constant (.str j) p p1,.Constant (.str o) u p2] env).map fun t=>do let v ←t;standAt l;pure v) rfl rfl (by refine AB (List.length_map ..) ?_;refine AB (kds_len ..) ?_;exact Bh H) (by refine Eq.trans List.map_map ?_;rfl) fun led=>?_;refine kds_all l _ _ _ ?_;have r:s₁.heap.get? s₁.heap.objs.size=none:=fresh_at _;have L:({ s₁ with heap:=s₁.heap.push { cls:=.type "set",dict:=none,data:=.set #[] 0 (.fresh 0 0 led) } } : Shared).heap.SetOf (PySem.strKind PR w.w) s₁.heap.objs.size (fun m=>false) 0:=(setObjOf_fresh (knd:=PySem.strKind PR w.w) led).setOf (BD _ rfl) (Nat.zero_lt_succ 4095);generalize s₁.heap.objs.size=D at *;refine Constant_str ?_;refine Constant_str ?_;refine kds_fill_cons (NR (s₀:=s₁) ((Step.push (w:=w) s₁ { cls:=.type "set",dict:=none,data:=.set #[] 0 (.fresh 0 0 led) }).trans (Step.toks _ _ (Nat.le_add_right _ 2))) h.gh r L (Nat.succ_pos _) fun G B d g=>?_);refine kds_fill_cons (NR (s₀:=s₁) d h.gh r g (Nat.lt_of_sub_eq_succ rfl) fun z F c a=>?_);refine kds_fill_nil rfl (kdi_mark (Ov c h.gh r a (by split<;>exact Nat.lt_of_sub_eq_succ rfl) fun i f y=>?_));refine wpAny_notInSet_of (knd:=PySem.strKind PR w.w) (k:=q) (strKind_is _ _ _ _) rfl y (wpAny_truthy_bool (k _ ((x.trans f).trans (Step.Bu i)))))
end
noncomputable def MU (x y:UInt64):Option UInt64:=
 if !(Float64.isNaN (Float64.sqrt (Float64.mul x y)) && !Float64.isNaN (Float64.mul x y))&&Float64.isFinite (Float64.sqrt (Float64.mul x y))then
  if Float64.isZero (Float64.sqrt (Float64.mul x y))then if Ce (.AS x)&&Ce (.AS y)then none else some (Float64.sqrt (Float64.mul x y))
  else if Float64.isZero (Float64.mul 4611686018427387904 (Float64.sqrt (Float64.mul x y)))then none
  else(Eu [.AS x,.AS (Float64.sqrt (Float64.mul x y))] [.AS y,.AS (Float64.neg (Float64.sqrt (Float64.mul x y)))] z3).map fun t=>
   Float64.add (Float64.sqrt (Float64.mul x y)) (Float64.div (Float64.add (Float64.ofInt 0) (tlToFloat t)) (Float64.mul 4611686018427387904 (Float64.sqrt (Float64.mul x y))))
 else none
set_option tactic.hygienic true in
theorem WD {x r:UInt64} (h:MU x y=some r):Dm w (n+3) (.ref 336) [.fv (.AS x),.fv (.AS y)] [] [] (.ret (.fv (.AS r))):=by
 unfold MU at h;split at h
 ·rename_i h1;rw [Bool.and_eq_true,Bool.not_eq_true']at h1;have e:¬(Float64.isNaN (Float64.sqrt (Float64.mul x y)) && !Float64.isNaN (Float64.mul x y))=true:=by refine AB h1.1 ?_;exact Bool.false_ne_true
  split at h
  ·rename_i hz;split at h
   ·injection h
   ·rename_i aJ;refine Ar (Ai h) ?_;exact Su (n:=n+2) rfl e h1.2 hz (Eq.symm ((fun {a b}=>Bool.not_not_eq.mp) fun a=>aJ (id (Eq.symm a))))
  ·rename_i hz;split at h
   ·injection h
   ·rename_i h2;refine AF (Option.map_eq_some_iff.mp h) fun t g k=>?_;obtain rfl:=k;exact Vy rfl e h1.2 (eq_false_of_ne_true hz) h2 g
 ·injection h
theorem WE:GV "_sqrtprod" (.ref 336):=BE fun z=>rfl
section
variable {w:Wd} {names:BC} {n:Nat} {pe:PE}
theorem Lk {r:Str} (y:Ev w names n pe e (.str q)):Tr w names n pe (.Compare e [.Eq] [.Constant (.str r) kk g] pos) (q==r):=fun A env s Q E C k=>
 wpAny_isTrue_Compare1 (y A env s _ E C fun a s₁ h x=>Constant_str (by
  obtain⟨t,rfl⟩:=x;exact eq_str (wpAny_truthy_bool (k _ (h.trans (Step.Bu s₁)))))) (by with_unfolding_all rfl)
theorem MV {x y:Str} {t:Bc} (d:names.lookup "sumprod" = some .globalImplicit) (c:pe x=some (.list xs)) (b:pe y=some (.list ys)) (hl:xs.length=ys.length) (h:xs≠[]) (f:Eu xs ys z3=some t)
  (e:autoParam ((x==("__debug__" : Str))=false) B8) (a:autoParam ((x==("__classdict__" : Str))=false) B8) (k:autoParam ((y==("__debug__" : Str))=false) B8) (g:autoParam ((y==("__classdict__" : Str))=false) B8) :
  Ev w names (n+1) pe (.Call (.Name "sumprod" np) [.Name x p1,.Name y p2] [] pos) (.fv (.AS (CO t))):=
 BG I8 d rfl (nm:=[]) rfl (AE (AA c e a) (AE (AA b k g) AK)) Ad (Gh (n:=n) hl h f)
end
noncomputable def Ib (a r:UInt64):Out:=if Float64.isZero r then .exc (.ref 102)else .ret (.fv (.AS (Float64.div a r)))
noncomputable abbrev YL (w:Wd):BC:=NM Ef
noncomputable def T3:List Stmt:=(Ag (BM 21)).drop 6
set_option tactic.hygienic true in
theorem NS {own:Option Str} {a b c:Bc} {r:UInt64} (g:pe "x" = some (.list xs)) (e:pe "y" = some (.list ys)) (hl:xs.length=ys.length) (k:xs≠[])
  (j:Eu xs ys z3=some a) (l:Eu xs xs z3=some b) (f:Eu ys ys z3=some c) (i:MU (CO b) (CO c)=some r):Bo w (YL w) (OC Ef) (n+3) own pe T3 (Ib (CO a) r):=by
 refine AN (AL (MV (n:=n+2) (t:=a) rfl g e hl k j) (.inl rfl)) ?_;refine AN (AL (MV (n:=n+2) (t:=b) rfl g g rfl k l) (.inl rfl)) ?_;refine AN (AL (MV (n:=n+2) (t:=c) rfl e e rfl (fun h=>k (by replace hl:=h▸hl;exact List.eq_nil_of_length_eq_zero hl)) f) (.inl rfl)) ?_;have d:∀ {np p1 p2 pos:Pos},Ev w (YL w) (n+3) (((pe.set "sxy" (.fv (.AS (CO a)))).set "sxx" (.fv (.AS (CO b)))).set "syy" (.fv (.AS (CO c)))) (.Call (.Name "_sqrtprod" np) [.Name "sxx" p1,.Name "syy" p2] [] pos) (.fv (.AS r)):=fun {z z z z}=>
  Kt.ev (JM WE rfl (o:=Il) rfl rfl (pa:=.fv (.AS (CO b))) (pb:=.fv (.AS (CO c))) rfl rfl (WD (n:=n) i))
 unfold Ib;split
 ·rename_i hz;exact Es (Se (x:=CO a) (y:=r) (AA rfl) d hz) P' rfl rfl My (by decide)
 ·rename_i hz;exact fun s₀=>Hw (CA (AI (AA rfl) d (F0 hz)) s₀)
theorem Ow (h:List Stmt) (a:List Stmt):execs (a++h) env=(do match ←execs a env with | .next=>execs h env | f=>pure f):=by
 induction a with
 |nil=>rfl
 |cons e a k=>
  refine AB List.cons_append ?_;refine Eq.trans (execs_cons ..) ?_;refine AB (execs_cons ..) ?_;refine AB k ?_;refine AB (LawfulMonad.bind_assoc ..) ?_;refine congrArg _ (funext fun f=>?_);cases f<;>rfl
theorem J1 {Q:Flow→Shared→Prop} {t:Expr} {k e:List Stmt}
  (h:wpAny M A (isTrue t env (eval t env)) (fun b s'=>wpAny M A (execs ((if b=true then body else k)++e) env) Q E s') E s):wpAny M A (execs (.If t body k pos::e) env) Q E s:=by
 refine AB (execs_cons ..) ?_;refine AB (arm_exec_If ..) ?_;refine AB (LawfulMonad.bind_assoc ..) ?_;refine AD (wpAny_standAt ?_);refine AB (LawfulMonad.bind_assoc ..) ?_;refine AD (wpAny_mono h (fun b s' h'=>?_) fun z z x=>x);replace h':=(Ow ..)▸h';cases b<;>exact h'
section
variable {w:Wd} {names:BC} {oc:List Str} {n:Nat} {own:Option Str} {pe:PE} {out:Out}
theorem RG {t:Expr} {e:List Stmt} {x:List Stmt} (c:Tr w names n pe t b) (h:Bo w names oc n own pe ((if b=true then body else e)++x) out):Bo w names oc n own pe (.If t body e pos::x) out:=
 fun s₀ A env y s Q E a hl F k=>J1 (c A env s _ E F.cx fun s₁ g=>h s₀ A env y s₁ Q E a hl (F.step g) k)
end
theorem BL (ns:List Int):(A5 ns).length=ns.length:=Eq.symm (len_of_map_eq rfl)
section
variable {w:Wd} {names:BC} {n:Nat} {pe:PE}
theorem Ll {x:Str} {h:Pos} {ns:List Int} (a:names.lookup "len" = some .globalImplicit) (k:pe x=some (.BN ns)) (g:ns.length≤1000) (hd:autoParam ((x==("__debug__" : Str))=false) Dy) (y:autoParam ((x==("__classdict__" : Str))=false) Dy) :
  Ev w names n pe (.Call (.Name "len" np) [.Name x h] [] pos) (.fv (.int ns.length)):=by
 have:=BG (w:=w) (names:=names) (n:=n) (pe:=pe) (np:=np) (pos:=pos) H4 a rfl (nm:=[]) rfl (AE (e:=.Name x h) (Ev.KS (AA k hd y)) AK) Ad (L5 (xs:=A5 ns) (by refine AB (BL ..) ?_;exact g));rwa [BL]at this
end
theorem T4 {k r:UInt64} {a b c:Bc} (hl:xs.length=ys.length) (y:2≤xs.length) (d:xs.length≤1000) (z:∀ f∈xs,F9 f) (C:∀ f∈ys,F9 f) (x:DM xs=some k) (e:DM ys=some yb)
  (D:Eu (xs.map (B5 k)) (ys.map (B5 yb)) z3=some a) (E:Eu (xs.map (B5 k)) (xs.map (B5 k)) z3=some b) (I:Eu (ys.map (B5 yb)) (ys.map (B5 yb)) z3=some c) (F:MU (CO b) (CO c)=some r) :
  Dm w (n+4) (.ref 349) [.list xs,.list ys] [] [] (Ib (CO a) r):=by
 refine AF (GC x) fun px m x=>?_;refine AF (GC e) fun py s e=>?_;have j:xs.map (B5 k)≠[]:=by intro h;have:=congrArg List.length h;simp at this;replace y:=this▸y;exact Nat.not_succ_le_zero 1 y
 refine Jk (o:=Ef) (fd:=fdOf Ef) (body:=Ag (BM 21)) (bs:=[("x",.list xs),("y",.list ys),("method",.str "linear")]) rfl rfl rfl rfl (fun vs ks h t B=>?_) (fun h G=>codeRec_of G.kin (by kernel_rfl)) (fun p J=>?_) ?_ rfl rfl rfl rfl rfl rfl
 ·refine AW (Bi t) fun v u i A H=>?_;clear t;obtain rfl:=i;obtain rfl:=A6 B;exact⟨_,fun S=>rfl,rfl,A,H,⟨_,rfl⟩,trivial⟩
 ·exact locs (by rfl) p J
 ·refine AN C6 ?_;refine AN (AL (EM rfl rfl d) (.inl rfl)) ?_;refine BW (An (BU (EM rfl rfl (hl▸d)) (AA rfl) Hj) (bne_eq_false_iff_eq.mpr (congrArg Nat.cast (id (Eq.symm hl))))) ?_;refine BW (An (BU (AA rfl) (AV _ _ _) Hk) (by simp;exact Int.toNat_le.mp y)) ?_;refine BW (An (Lj (q:="linear") (AA rfl) (by kernel_rfl) rfl) (by rfl)) ?_;refine RG (b:=false) (An (Lk (q:="linear") (AA rfl)) (by rfl)) ?_;refine AN (AL (pv:=.fv (.AS k)) (Cw (AI (DQ rfl rfl m) (AA rfl) (DD (Kb y) (CZ (Hd d)))) (by refine Ar x ?_;rfl)) (.inr ⟨DI rfl,rfl⟩)) ?_;refine AN (AL (pv:=.fv (.AS yb)) (Cw (AI (DQ rfl rfl s) (AA rfl) (DD (Kb y) (CZ (Hd d)))) (by refine Ar e ?_;refine AB hl ?_;rfl)) (.inr ⟨DI rfl,rfl⟩)) ?_;refine AN (Jq (p:=fun Z=>true) (g:=B5 k) (xs:=xs) (AA rfl) (.inl rfl) rfl rfl rfl (by decide) rfl (fun Z Z=>rfl) (fun f l Z=>AI (AA rfl) (AA rfl) (ME (z f l))) d rfl rfl rfl) ?_;refine AN (Jq (p:=fun Z=>true) (g:=B5 yb) (xs:=ys) (AA rfl) (.inl rfl) rfl rfl rfl (by decide) rfl (fun Z Z=>rfl) (fun f l Z=>AI (AA rfl) (AA rfl) (ME (C f l))) (hl▸d) rfl rfl rfl) ?_;refine NS (n:=n) ?_ ?_ (by simpa using hl) j D E I F
  ·show some (PV.list ((xs.filter fun Z=>true).map (B5 k)))=_;refine AB Sr ?_;rfl
  ·show some (PV.list ((ys.filter fun Z=>true).map (B5 yb)))=_;refine AB Sr ?_;rfl
theorem RH {k y:List Int} {e x:List FV} {r:UInt64} {a b c:Bc} (hl:k.length=y.length) (i:2≤k.length) (g:k.length≤6)
  (B:Cp w false k (.AS (Float64.sub (qf ((k.length:Int)-1) (-2)) (Float64.ofInt 1))) e) (A:Cp w false y (.AS (Float64.sub (qf ((k.length:Int)-1) (-2)) (Float64.ofInt 1))) x) (l:e.length=x.length) (j:e≠[])
  (D:Eu e x z3=some a) (E:Eu e e z3=some b) (I:Eu x x z3=some c) (F:MU (CO b) (CO c)=some r) :
  Dm w (n+10) (.ref 349) [.BN k,.BN y] ["method"] [.str "ranked"] (Ib (CO a) r):=by
 refine Jk (o:=Ef) (fd:=fdOf Ef) (body:=Ag (BM 21)) (bs:=[("x",.BN k),("y",.BN y),("method",.str "ranked")]) rfl rfl rfl rfl (fun vs ks h t s=>?_) (fun h G=>codeRec_of G.kin (by kernel_rfl)) (fun p J=>?_) ?_ rfl rfl rfl rfl rfl rfl
 ·refine AW (Bi t) fun v u f z H=>?_;clear t;obtain rfl:=f;refine AF (BP s) fun m d C=>?_;clear s;obtain rfl:=d;exact⟨[("x",v),("y",u),("method",m)],fun S=>rfl,rfl,z,H,C,trivial⟩
 ·exact locs (by rfl) p J
 ·refine AN C6 ?_;refine AN (AL (Ll rfl rfl (AJ g (Nat.le_add_left 6 994))) (.inl rfl)) ?_;refine BW (An (BU (Ll (ns:=y) rfl rfl (by exact AJ (AJ (Nat.le_of_eq (Eq.symm hl)) g) (DY rfl))) (AA rfl) Hj) (by exact bne_eq_false_iff_eq.mpr (congrArg Nat.cast (id (Eq.symm hl))))) ?_;refine BW (An (BU (AA rfl) (AV _ _ _) Hk) (by simp;exact Int.toNat_le.mp i)) ?_;refine BW (An (Lj (q:="ranked") (AA rfl) (by kernel_rfl) rfl) (by rfl)) ?_;refine RG (b:=true) (An (Lk (q:="ranked") (AA rfl)) (str_beq_self "ranked")) ?_;refine AN (AL (pv:=.fv (.AS (qf ((k.length:Int)-1) (-2)))) (AI (AI (AA rfl) (AV _ _ _) CL) (Jr (AV _ _ _)) (Jc (by decide) (Nat.lt_trans (Ws i (AJ g (by decide))) (by decide)))) (.inl rfl)) ?_;refine AN (AL (pv:=.list e) (Kt.ev (Bb J0 rfl (o:=Ed) rfl rfl rfl (nm:=["start"]) rfl (AE (AA (pv:=.BN k) rfl) AK) (DF (AA rfl) Ad) (Lb (n:=n) i g B))) (.inl rfl)) ?_;refine AN (AL (pv:=.list x) (Kt.ev (Bb J0 rfl (o:=Ed) rfl rfl rfl (nm:=["start"]) rfl (AE (AA (pv:=.BN y) rfl) AK) (DF (AA rfl) Ad) (Lb (n:=n) (hl▸i) (hl▸g) A))) (.inl rfl)) ?_;exact NS (n:=n+6) rfl rfl l j D E I F
noncomputable def RI (o:Obj):Prop:=o.cls≠.none∧¬Af o∧∀ v,o.data≠.cell v
theorem RJ (fp:List Addr):(∀ b∈fp,∃ o,h.get? b=some o∧RI o)→∃ L:List (Addr×Obj),(∀ p∈L,h.get? p.1=some p.2∧RI p.2)∧∀ b∈fp,∃ o,(b,o)∈L:=by
 induction fp with
 |nil=>exact fun z=>⟨[],Dh,Dh⟩
 |cons b fp g=>
  intro y;refine AF (g fun c x=>y c (.tail _ x)) fun L a d=>?_;refine AF (y b D1) fun o e k=>?_;exact⟨(b,o)::L,A0 ⟨e,k⟩ a,A0 ⟨o,D1⟩ fun c x=>(d c x).elim fun o' h'=>⟨o',.tail _ h'⟩⟩
section
variable {w:Wd} {names:BC} {oc:List Str} {n:Nat} {A:Around} {env:Env} {s₀ s:Shared} {own:Option Str} {pe:PE}
theorem Lm {R:Result→Shared→Prop} {fp:List Addr} {P:Nat→Value→Prop} {E:Nat→Heap→Prop} {x:Str} (W:Walks PR w.w A I fp [I] xs.length P E) (hP:∀ i v f,P i v→xs[i]? = some f→BZ f v)
  (O:∀ i h,E i h→∀ b∈fp,∃ o,h.get? b=some o∧RI o) (hI:∀ i h,E i h→∃ o vs,h.get? I=some o∧o.data = .fields vs∧∀ q t,vs[1]?≠some (.str q t)) (fI:s₀.heap.get? I=none) (F:Fm w names oc n A env s₀ none s pe) (st:E 0 s.heap)
  (Y:names.lookup x=some .local∨(x∈oc∧names.lookup x=some .cell)) (J:Nat→PE→Prop) (j0:J 0 pe)
  (D:∀ j f pe',J j pe'→xs[j]? = some f→∃ own' y,J (j+1) y∧∀ w':Wd,Nm w' names oc n none (pe'.set x (.fv f)) body own' y)
  (K:∀ s' pe',J xs.length pe'→Fm w names oc n A env s₀ none s' pe'→R (.ok .next) s'):codeAny (MD w) A (.forLoop (.Name x px) (.ref I) body [] env) R s:=by
 refine codeAny_forLoop_any (fun k s'=>∃ j pe',k=xs.length+1-j∧j≤xs.length∧J j pe'∧Fm w names oc n A env s₀ none s' pe'∧E j s'.heap) (fun k s' U=>?_) (xs.length+1) (Hf 0 pe rfl (Nat.zero_le _) j0 F st);refine Ej (U) fun j pe' N hj hJ F' r=>?_;clear U;obtain rfl:=N;have S:∀ b∈[I],∀ o,s'.heap.get? b=some o→¬Af o∧(∀ v,o.data≠.cell v)∧∀ xs k,o.data≠.seq xs k:=fun b C o e=>by
  refine AW (hI _ _ r) fun o' vs Q d _=>?_;rw [List.mem_singleton.mp C,Q]at e;refine Ar (Ai e) ?_;exact(B2 (AR d) (fun v q=>by injection (d.symm.trans q)) (fun xs k q=>by injection (d.symm.trans q)))
 have mv:∀ (h':Heap) (tk:Nat),s'.toks≤tk→(∀ b o,b∉[I]→s'.heap.get? b=some o→h'.get? b=some o)→Mv w s₀ [I] s' { s' with heap:=h',toks:=tk }:=fun h' tk ht T=>by
  refine AW (hI _ _ r) fun o' vs Q d hs=>?_;exact Mv.ext (a:=I) F.g0 F'.st List.mem_cons_self fI Q (BX d hs) (fun b o C e=>T b o (fun m=>C (List.mem_singleton.mp m)) e) ht
 refine Or.elim (Nat.lt_or_ge j xs.length) (fun l=>?_) (fun gA=>?_)
 ·obtain⟨f,hf⟩:∃ f,xs[j]? = some f:=⟨xs[j],by exact List.getElem?_eq_getElem l⟩
  refine Ak (W.item j s' _ _ l r fun v h' tk gB u T m=>?_);refine AM (wpAny_assign_Name ?_);refine B4 (F'.mv (mv h' tk m T) S) Y (pv:=.fv f) (hP j v f gB hf) none (fun _ h=>by injection h) fun B H kp _ _=>?_;have g:E (j+1) B.heap:=W.frame _ _ _ u fun b C o e=>by
   refine Cy (O _ _ u b C) fun o' Q _ Z d2=>?_;obtain rfl:=(B6 Q e)
   exact kp b _ Z d2 e
  refine AF (RJ fp (O _ _ g)) fun L M X=>?_;refine AY (H.Q4 L [] (fun p hp=>FX (M p hp) fun e c Z d2=>(Ei e c Z d2 (fun x Y=>by injection Y))) (fun d hd=>by cases hd)) fun sg xg Gg G=>?_;refine CD (D j f pe' hJ hf) fun own' y V hB=>?_;refine hB (w.add L []) A env sg B _ _ G fun S' z=>?_;refine(L0 (xs.length+1-(j+1)) (Y' l) (j+1) y rfl l V (((z.disown).Bd Gg).down F.g0 xg) (W.frame _ _ _ g fun b C o e=>?_))
  refine Ap (X b C) fun o' hm=>?_;refine Bt (M _ hm) fun e1 _=>?_;refine AB (B6 e e1) ?_;exact((z.cx.gh.led (b,o') (List.mem_append_left _ hm)).1)
 ·have a0:j=xs.length:=Nat.le_antisymm hj gA;subst a0;refine Ak (W.done s' _ _ r fun h' tk T m=>?_);exact wpAny_execs_nil (K _ pe' hJ (F'.mv (mv h' tk m T) S))
theorem BZ.at {k:List Value} (x:Al xs k) (i:Nat) (v:Value) (f:FV) (h:k.toArray[i]? = some v) (h':xs[i]? = some f):BZ f v:=by
 refine AF (x.get (show k[i]? = some v by simpa using h)) fun y e r=>?_;refine AB (B6 h' e) ?_;exact r
theorem Ln {x:Str} {D6:Pos} (hi:Ev w names n pe iter (.list xs)) (U:names.lookup x=some .local∨(x∈oc∧names.lookup x=some .cell)) (J:Nat→PE→Prop) (V:J 0 pe)
  (z:∀ j f pe',J j pe'→xs[j]? = some f→∃ own' g,J (j+1) g∧∀ w':Wd,Nm w' names oc n none (pe'.set x (.fv f)) body own' g) (G:∀ g,J xs.length g→∀ y pv,pe' y=some pv→g y=some pv)
  (T:autoParam (∀ env x,foldedSetIterable iter env x=pure x) Me):N1 w names oc n own pe (.For (.Name x px) iter body [] D6) none pe':=fun A env s₀ s Q E F k=>
 wpAny_For (hi A env s _ E F.cx fun v s₁ H l=>by
  refine AW (l) fun a R D hl O=>?_;clear l;obtain rfl:=D;refine wpAny_pyIter_list hl ?_;have m:=(F.step H).disown;have K:s₁.heap.get? s₁.heap.objs.size=none:=fresh_at _;have L:a≠s₁.heap.objs.size:=by refine AF (hl) fun o e _=>?_;exact Nat.ne_of_lt (Heap.lt_size e)
  have I:R.toArray.size=xs.length:=O.length;have W:=Walks.list (prog:=PR) (w:=w.w) (A:=A) F.cx.ok.h s₁.heap.objs.size a L R.toArray;replace W:=I▸W;refine Lm W (BZ.at O) (fun i h N b M=>?_) (fun i h N=>?_) (m.st.gone F.g0 K) (m.step (Step.push s₁ _)) ⟨(Aj _ (BD _ rfl) rfl rfl),hl.push _⟩ U J V z fun s' g hJ Y=>?_
  ·refine Bt (N) fun u p=>?_;refine AY (u) fun o e c d=>?_;refine B0 (p) fun Z S X m2 P=>?_;simp only [List.mem_cons,List.not_mem_nil,or_false]at M;refine Or.elim M (fun r=>?_) (fun C=>?_)
   ·clear M;obtain rfl:=r;exact(AQ o e ⟨by refine AB c ?_;exact(fun q=>nomatch q),AR d,fun v q=>by injection (d.symm.trans q)⟩)
   ·obtain rfl:=C;exact(AQ Z S ⟨by refine AB X ?_;exact(fun q=>nomatch q),AG P,fun v q=>by injection (P.symm.trans q)⟩)
  ·refine Bt (N) fun B _=>?_;refine AY (B) fun o e c d=>?_;exact(Bl o _ e d (fun q t=>by exact Ne.symm (not_eq_of_beq_eq_false rfl)))
  ·exact k _ (Y.less (G g hJ))) (T env)
theorem MW {x:Str} {D6:Pos} (hi:Lx w names n pe es (xs.map .fv)) (Z:xs.length≤1000) (T:names.lookup x=some .local∨(x∈oc∧names.lookup x=some .cell)) (J:Nat→PE→Prop) (U:J 0 pe)
  (p:∀ j f pe',J j pe'→xs[j]? = some f→∃ own' g,J (j+1) g∧∀ w':Wd,Nm w' names oc n none (pe'.set x (.fv f)) body own' g) (D:∀ g,J xs.length g→∀ y pv,pe' y=some pv→g y=some pv) :
  N1 w names oc n own pe (.For (.Name x px) (.Tuple es kk O) body [] D6) none pe':=fun A env s₀ s Q E F k=>
 wpAny_For (wpAny_Tuple (hi A env s O _ E F.cx fun vs s₁ G C=>by
  have N:=F8 C;have hsz:vs.length=xs.length:=N.length;refine⟨by refine AB hsz ?_;exact AJ Z (Nat.le_add_left 1000 16776216),?_⟩
  have hl:({ s₁ with heap:=s₁.heap.push { cls:=.type "tuple",data:=.seq vs.toArray } } : Shared).heap.IsTuple s₁.heap.objs.size vs.toArray:=(Cc _ (BD _ rfl) rfl _ rfl)
  have H:=G.trans (Step.push s₁ { cls:=.type "tuple",data:=.seq vs.toArray });generalize s₁.heap.objs.size=a at *;generalize ({ s₁ with heap:=s₁.heap.push { cls:=.type "tuple",data:=.seq vs.toArray } } : Shared)=CN at *;refine wpAny_pyIter_tuple hl ?_;have l:=(F.step H).disown;have K:CN.heap.get? CN.heap.objs.size=none:=fresh_at _;have L:a≠CN.heap.objs.size:=by refine AF (hl) fun o e _=>?_;exact Nat.ne_of_lt (Heap.lt_size e)
  have I:vs.toArray.size=xs.length:=by trivial
  have W:=Walks.tuple (prog:=PR) (w:=w.w) (A:=A) F.cx.ok.h CN.heap.objs.size a L vs.toArray;replace W:=I▸W;refine Lm W (BZ.at N) (fun i h M b P=>?_) (fun i h M=>?_) (l.st.gone F.g0 K) (l.step (Step.push CN _)) ⟨(Aj _ (BD _ rfl) rfl rfl),hl.push _⟩ T J U p fun s' g hJ X=>?_
  ·refine Bt (M) fun B m=>?_;refine AY (B) fun o e c d=>?_;refine B0 (m) fun Y S V m2 R=>?_;simp only [List.mem_cons,List.not_mem_nil,or_false]at P;refine Or.elim P (fun u=>?_) (fun r=>?_)
   ·refine AB u ?_;exact(AQ o e ⟨by refine AB c ?_;exact(fun q=>nomatch q),AR d,fun v q=>by injection (d.symm.trans q)⟩)
   ·refine AB r ?_;exact(AQ Y S ⟨by refine AB V ?_;exact(fun q=>nomatch q),AG R,fun v q=>by injection (R.symm.trans q)⟩)
  ·refine Bt (M) fun z _=>?_;refine AY (z) fun o e c d=>?_;exact(Bl o _ e d (fun q t=>by exact Ne.symm (not_eq_of_beq_eq_false rfl)))
  ·exact k _ (X.less (D g hJ))))
end
section
variable {w:Wd} {names:BC} {n:Nat} {pe:PE}
theorem NT {x:Str} {T:String} {k:List PV} (C:Cx w names n A env s pe) (g:GV x (.type T)) (f:names.lookup x=some .globalImplicit)
  (y:es.all BK=true) (hl:Lx w names n pe es k) (h:∀ vs s',Step w s s'→Bs s'.heap k vs→wpAny (MD w) A (call (.type T) vs []) Q E s') (hd:autoParam ((x==("__debug__" : Str))=false) Dy):wpAny (MD w) A (eval (.Call (.Name x np) es [] pos) env) Q E s:=by
 refine CK (DE [] [] env pos rfl) fun c d i=>?_;refine wpAny_Call_ofName (BF C g f ?_ hd);refine AD (wpAny_holding (Ae y d ?_));refine hl A env s pos _ E C fun vs s₁ a e=>AM ?_;refine AD (wpAny_standAt ?_);refine AB (CR es env pos y) ?_;refine AB i ?_;refine AD (AM ?_);refine AB c ?_;exact AD (wpAny_mono (h vs s₁ a e) (fun v b q=>AD (wpAny_holding (wpAny_point (AM q)))) fun u u z=>z)
theorem RK:GV "range" (.type "range"):=Bp (fun z=>rfl) rfl (by decide)
noncomputable def T5 (a:Int) (m:Nat):List Int:=(List.range m).map fun(i:Nat)=>a+(i:Int)
theorem src_range {S:Pos} {J I:Expr} {L:BC} {oc:List Str} {x:Str} {l:PE} {a:Int} (O:names.lookup "range" = some .globalImplicit) (U:Ev w names n pe J (.fv (.int a))) (g:Ev w names n pe I (.fv (.int (a+(m:Int))))) (R:([J,I]:List Expr).all BK=true)
  (N:Builtin.Range.small a (a+(m:Int)) 1=true) (T:L.lookup x=some .local∨(x∈oc∧L.lookup x=some .cell)) (M:l x=none) :
  N0 w names n pe (.Call (.Name "range" np) [J,I] [] S) L oc (.Name x px) l ((A5 (T5 a m)).map fun f=>[(x,.fv f)]):=fun A env s Q E C k=>by
 have p:BK J=true∧BK I=true:=by simpa using R
 refine NT C RK O R (AE U (AE g AK p.2) p.1) fun vs s₁ r c=>?_;refine AW (Bi c) fun v u D F z=>?_;clear c;obtain rfl:=D;obtain⟨H,rfl⟩:=F;obtain⟨K,rfl⟩:=z;refine call_range_2 ?_;have V:IsRange ({ s₁ with heap:=s₁.heap.push { cls:=.type "range",data:=.fields #[.int a H,.int (a+(m:Int)) K,.int 1 s₁.toks] },toks:=s₁.toks+1 } : Shared).heap s₁.heap.objs.size a (a+(m:Int)) 1 H K s₁.toks:=IsRange.new _ _ _ _ _ _ _;have d:Step w s { s₁ with heap:=s₁.heap.push { cls:=.type "range",data:=.fields #[.int a H,.int (a+(m:Int)) K,.int 1 s₁.toks] },toks:=s₁.toks+1 }:=r.trans (Step.of_keeps fun Z Z e=>Br _ e);generalize ({ s₁ with heap:=s₁.heap.push { cls:=.type "range",data:=.fields #[.int a H,.int (a+(m:Int)) K,.int 1 s₁.toks] },toks:=s₁.toks+1 } : Shared)=CN at *;refine wpAny_pyIter_range V N (k _ _ ?_);have hsz:Builtin.Range.rangeSize a (a+(m:Int)) 1=(m:Int):=by
  unfold Builtin.Range.rangeSize;split
  ·split
   ·lia
   ·lia
  ·lia
 refine AB hsz ?_;have W:=Walks.range (prog:=PR) (w:=w.w) (A:=A) C.ok.h CN.heap.objs.size a 1 m;have y:(A5 (T5 a m)).length=m:=by simp [A5,T5]
 replace W:=y.symm▸W;refine(Cz [CN.heap.objs.size] (fun i h=>IsRangeIter h CN.heap.objs.size (a+(i:Nat)*1) (((A5 (T5 a m)).length:Int)-(i:Nat)) 1) (d.trans (Step.push CN _)) (fun b g=>?_) ?_ (fun i h h' j O=>?_) (fun i s' Q E j q=>wpAny_pyIter_rangeiter j q) (fun P=>?_))
 ·refine AB (List.mem_singleton.mp g) ?_;exact⟨_,BD _ rfl⟩
 ·refine AB y ?_;have:=BD CN.heap (o:={ cls:=.type "range_iterator",data:=.fields #[rawInt a,rawInt (m:Int),rawInt 1] }) rfl
  simpa using this
 ·exact O _ D1 _ (As fun q=>nomatch q) (AR rfl) (fun v q=>by injection q) j
 ·refine Ff W (fun i v f h G=>?_) (fun b g=>?_) (fun i h j b g o e=>?_) (fun i h j b g o e=>?_) T M
  ·refine Ap (h) fun t B=>?_;clear h;obtain rfl:=B;have X:i<m:=by refine Ar y ?_;exact(List.getElem?_eq_some_iff.mp G).1
   have:(A5 (T5 a m))[i]? = some (.int (a+(i:Int))):=by simp [A5,T5,X]
   obtain rfl:=(B6 this G)
   exact⟨t,by refine AB (Int.mul_one ..) ?_;rfl⟩
  ·refine AB (List.mem_singleton.mp g) ?_;exact d.gone C.gh (fresh_at _)
  ·replace e:=(List.mem_singleton.mp g)▸e;refine Ar (B6 j e) ?_;exact BX rfl fun q t=>by exact Ji trivial
  ·replace e:=(List.mem_singleton.mp g)▸e;refine Ar (B6 j e) ?_;exact(B2 (As (fun q=>nomatch q)) (AR rfl) (fun v q=>by injection q))
end
section
variable {w:Wd} {cn:BC} {oc:List Str} {n:Nat} {A:Around} {env:Env} {s₀ s s':Shared} {DP:PE}
theorem Lo {fp wr:List Addr} {P:Nat→Array Value→Prop} {St:Nat→Heap→Prop} {R:Nat→Addr→Heap→Prop} {x y:Str} {zs:List (FV×FV)} (W:WalksT PR w.w A I fp wr zs.length P St R)
  (hP:∀ i vals f g,P i vals→zs[i]? = some (f,g)→∃ u v,vals = #[u,v]∧BZ f u∧BZ g v)
  (G:∀ b∈wr,s₀.heap.get? b=none) (V:∀ i h,St i h→∀ b∈wr,∀ o,h.get? b=some o→HI o) (Q:∀ i T h,R i T h→∀ b∈wr,∀ o,h.get? b=some o→HI o) (gC:∀ i h,St i h→∀ b∈fp,∀ o,h.get? b=some o→¬Co o∧¬Af o∧∀ v,o.data≠.cell v) (iB:∀ i h,St i h→∀ b∈fp,∃ o,h.get? b=some o)
  (hx:cn.lookup x=some .local) (hy:cn.lookup y=some .local) (bI:DP x=none) (Xc:DP y=none):Turn w cn oc n A env s₀ (.ref I) (.Tuple [.Name x px,.Name y py] kk tp) DP (zs.map fun p=>[(x,.fv p.1),(y,.fv p.2)]) fp St:=by
 intro i s Qn Qs E F hv l hi kn ks;replace hi:=(List.length_map ..)▸hi;have H:∀ b,b∉fp→b∉wr:=fun b h m=>h (W.sub b m)
 by_cases j:i<zs.length
 ·obtain⟨⟨f,g⟩,hf⟩:∃ f,zs[i]? = some f:=⟨zs[i],by exact List.getElem?_eq_getElem j⟩
  refine Ak (W.item i s _ _ j l fun T vals h' tk Z _ hT k hk m=>?_);refine AW (hP i _ f g Z hf) fun u v S ru rv=>?_;clear Z;obtain rfl:=S;refine Bt (F.XK (t:=tk) hv hk G (V i _ l)) fun F' vk=>?_;refine W.go _ _ _ i T _ _ _ k fun J B D=>?_;refine Bt (F'.XK (t:=tk) (fun y pv e=>AF (hv y pv e) fun v a b=>(AQ v (vk y v a) b)) D G (Q i T _ k) (Nat.le_refl _)) fun U gD=>?_;refine assign_Tuple_tuple F.cx.ok.h (B0 ((AF (hT) fun o e r=>(AQ o (D T o (W.apart i T _ k) e) r))) fun o e c n d=>(Cc o e c n d)) rfl rfl fun Y he=>?_;have x1:Step w { s with heap:=J,toks:=tk } { s with heap:=Y,toks:=tk }:=Step.of_keeps (s:={ s with heap:=J,toks:=tk }) fun b o e=>he b o (Nat.ne_of_lt (Heap.lt_size e)) e;refine assignInOrder_cons (assign_Name (B4 (U.step x1) (.inl hx) (pv:=.fv f) ru none (fun _ h=>by injection h) fun YH O N X _=>?_));refine assignInOrder_cons (assign_Name (B4 O (.inl hy) (pv:=.fv g) rv none (fun _ h=>by injection h) fun C L bJ M tp=>?_));have kp:∀ b o,¬Af o→(∀ cv,o.data≠.cell cv)→J.get? b=some o→C.heap.get? b=some o:=fun b o d c e=>bJ b o d c (N b o d c (he b o (Nat.ne_of_lt (Heap.lt_size e)) e));refine assignInOrder_nil (ks [(x,.fv f),(y,.fv g)] (by simp [hf]) C L ?_ (fun b o K nd nc e=>?_) (fun z u hz a=>?_) (fun q=>q.elim))
  ·exact W.frame _ _ _ B fun b K o e=>CK (gC _ _ B b K o e) fun t1 t2 t3=>kp b o t2 t3 e
  ·exact kp b o nd nc (D b o (H b K) (hk b o (H b K) e))
  ·exact M z u (by rintro rfl;exact hz Xc) (X z u (by rintro rfl;exact hz bI) ((gD z u (vk z u a)).step x1 U.cx.gh))
 ·have bK:i=zs.length:=Nat.le_antisymm hi (Nat.not_lt.mp j);clear j ks hi;subst bK;refine Ak (W.done s _ _ l fun h' tk hk m=>?_);refine Bt (F.XK (t:=tk) hv hk G (V _ _ l)) fun F' vk=>?_;exact kn (by simp) _ F' (fun b o K _ _ e=>hk b o (H b K) e) vk
end
noncomputable def Pl (o:Obj):Prop:=¬Co o∧¬Af o∧∀ v,o.data≠.cell v
theorem J2 {o:Obj} {xs n} (h:o.data = .seq xs n):Pl o:=⟨Ab h,AG h,fun v q=>by injection (h.symm.trans q)⟩
theorem RL {o:Obj} {vs} (c:o.cls≠.none) (h:o.data = .fields vs):Pl o:=⟨As c,AR h,fun v q=>by injection (h.symm.trans q)⟩
noncomputable def At (P:Obj→Prop) (h:Heap) (b:Addr):Prop:=∃ o,h.get? b=some o∧P o
theorem At.at {P:Obj→Prop} {b:Addr} {o:Obj} (x:At P h b) (e:h.get? b=some o):P o:=AF (x) fun z k p=>Ai (k.symm.trans e)▸p
section
variable {h:Heap} {z I O a b x y:Addr} {f0 u v:Value} {i j:Nat} {xs ys:Array Value}
theorem U9 (q:h.IsListIter a x i):At Pl h a:=AY (q) fun z e c d=>(AQ _ e (RL (by refine AB c ?_;exact nofun) d))
theorem U' (q:h.IsListIter a x i):At HI h a:=AY (q) fun z e z d=>⟨_,e,BX d fun q t=>by exact Ne.symm (not_eq_of_beq_eq_false rfl)⟩
theorem J3 (f:IsZip h z I O f0) (p:IsPair h I (.ref a) (.ref b)) (q:IsPair h O u v) (l:h.IsListIter a x i) (m:h.IsListIter b y i) (g:h.IsList x xs) (k:h.IsList y ys):∀ c∈[z,I,O,a,b,x,y],At Pl h c:=
 A0 (AQ _ f (RL nofun rfl)) (A0 (AQ _ p (J2 rfl)) (A0 (AQ _ q (J2 rfl)) (A0 (U9 l) (A0 (U9 m) (A0 (B0 (g) fun w e w w d=>(AQ _ e (J2 d))) (A0 (B0 (k) fun w e w w d=>(AQ _ e (J2 d))) Dh))))))
theorem RM (k:IsZip h z I O f0) (q:IsPair h O u v) (l:h.IsListIter a x i) (m:h.IsListIter b y j):∀ c∈[z,O,a,b],At HI h c:=
 A0 (AQ _ k (BX rfl fun q t=>by exact Ne.symm (not_eq_of_beq_eq_false rfl))) (A0 (AQ _ q (Pn rfl)) (A0 (U' l) (A0 (U' m) Dh)))
end
theorem Y1 {l:Nat} (b:l<N) (k:Nat) (h:l=N+k):False:=Nat.not_lt.mpr (Nat.le_add_right N k) (h▸b)
theorem bL {j:Nat} (k:Nat) (d:j≠k) (h:N+j=N+k):False:=d (Nat.add_left_cancel h)
theorem WG (N e c:Nat) (k:e<N) (g:c<N):ZipApart (N+4) (N+2) (N+3) N (N+1) e c:=by
 constructor<;>exact fun(h:@Eq Nat _ _)=>by first | exact Y1 k _ h | exact Y1 k 0 h | exact Y1 g _ h | exact Y1 g 0 h | exact bL _ (by decide) h | exact bL 0 (by decide) h | exact bL (j:=0) _ (by decide) h
section
variable {w:Wd} {names:BC} {n:Nat} {pe:PE}
theorem T6 {e1 e2:Expr} {cn:BC} {oc:List Str} {x y:Str} {K:PE} (hk:names.lookup "zip" = some .globalImplicit) (h1:Ev w names n pe e1 (.list xs)) (h2:Ev w names n pe e2 (.list ys)) (hp:([e1,e2]:List Expr).all BK=true)
  (hl:xs.length=ys.length) (hx:cn.lookup x=some .local) (hy:cn.lookup y=some .local) (bI:K x=none) (Xc:K y=none) :
  N0 w names n pe (.Call (.Name "zip" np) [e1,e2] [] zp) cn oc (.Tuple [.Name x px,.Name y py] kk tp) K ((xs.zip ys).map fun p=>[(x,.fv p.1),(y,.fv p.2)]):=fun A env s Q E C k=>by
 have Z:BK e1=true∧BK e2=true:=by simpa using hp
 refine NT C Qa hk hp (AE h1 (AE h2 AK Z.2) Z.1) fun vs s₁ H F=>?_;refine AW (Bi F) fun v u bN b0 X=>?_;clear F;obtain rfl:=bN;refine AW (b0) fun l1 us WH R f1=>?_;obtain rfl:=WH;refine AW (X) fun l2 ws Y J f2=>?_;obtain rfl:=Y;refine call_zip_2 R J fun h' hz M V S P hsz kp=>?_;have bb:∀ {l xs},s₁.heap.IsList l xs→l<s₁.heap.objs.size:=fun aW=>AF (aW) fun z e z=>Heap.lt_size e;have fr:∀ j,s.heap.get? (s₁.heap.objs.size+j)=none:=fun j=>H.gone C.gh (Heap.get?_none_of_le (Nat.le_add_right _ _));have W:=WalksT.zip2 (prog:=PR) (w:=w.w) (A:=A) C.ok.h _ _ _ _ _ l1 l2 (WG s₁.heap.objs.size l1 l2 (bb R) (bb J)) us.toArray ws.toArray;replace W:=(show min us.toArray.size ws.toArray.size=(xs.zip ys).length by simp [f1.length,f2.length])▸W;have G:=W.self;have q1:=R.at fun o e=>kp _ o e;have q2:=J.at fun o e=>kp _ o e;exact G 0 { s₁ with heap:=h' } _ _ ⟨hz,M,⟨_,_,V⟩,S,P,q1,q2⟩ (k _ _ ⟨_,_,H.trans (Step.of_keeps (t:=s₁.toks) kp),fun b c=>AF (J3 hz M V S P q1 q2 b c) fun o e z=>⟨o,e⟩,⟨hz,M,⟨_,_,V⟩,S,P,q1,q2⟩,
  fun i h h' d gE=>W.frame i h h' d fun b c o e=>He (d) fun D a2 a8 B q a6 a7=>Bj (a8) fun z z m=>let r:=(J3 D a2 m B q a6 a7 b c).at e;gE b c o r.1 r.2.1 r.2.2 e,G,
  fun gF=>Lo W (fun i vals f g a0 hf=>AW (a0) fun u v h1 h2 e=>let g:=List.getElem?_zip_eq_some.mp hf;⟨u,v,e,BZ.at f1 _ _ _ h1 g.1,BZ.at f2 _ _ _ h2 g.2⟩) (A0 (fr 4) (A0 (fr 3) (A0 (fr 0) (A0 (fr 1) Dh))))
   (fun i h d b c o e=>JT (d) fun D z a9 B q z=>Bj (a9) fun z z m=>(RM D m B q b c).at e) (fun i T h d b c o e=>JT (d) fun D z U B q z=>Bj (U) fun z z m=>(RM D m B q b c).at e)
   (fun i h d b c o e=>He (d) fun D a2 L B q a6 a7=>Bj (L) fun z z m=>(J3 D a2 m B q a6 a7 b c).at e) (fun i h d b c=>He (d) fun D a2 N B q a6 a7=>Bj (N) fun z z m=>AF (J3 D a2 m B q a6 a7 b c) fun o e z=>⟨o,e⟩) hx hy bI Xc⟩)
noncomputable def J4 (c:Int) (as bs:List Int):List Int:=((as.zip bs).filter fun p=>p.2==c).map (·.1)
theorem NU {X W pp:Pos} {k3:Nat} {P L:Expr} {x y:Str} {m:List Int} {c:Int} (hk:names.lookup "zip" = some .globalImplicit) (h1:Ev w names n pe P (.list (A5 m))) (Y:Ev w names n pe L (.list (A5 bs))) (J:([P,L]:List Expr).all BK=true)
  (hl:m.length=bs.length) (hz:m.length≤1000) (hx:(Au names sc.names).lookup x=some .local) (Z:(Au names sc.names).lookup y=some .local) (E:A3 names sc.names pe x=none) (H:A3 names sc.names pe y=none) (R:x≠y)
  (U:namesOk sc.names=true) (T:sc.kind = .function) (C:∀ x∈sc.names,x.2 = .local→sc.names.lookup x.1=some .local) (D:Ci names sc.names pe=true)
  (S:autoParam ((x==("__debug__" : Str))=false) B8) (N:autoParam ((x==("__classdict__" : Str))=false) B8) (Q:autoParam ((y==("__debug__" : Str))=false) B8) (M:autoParam ((y==("__classdict__" : Str))=false) B8) :
  FD w names n pe (.ListComp (.Name x W) [⟨.Tuple [.Name x px,.Name y py] kk X,.Call (.Name "zip" np) [P,L] [] zp,[.Compare (.Name y fp) [.Eq] [.Constant (.int c) k3 cp] pp],0⟩] sc pos) (A5 (J4 c m bs)):=by
 have B:∀ r∈(((A5 m).zip (A5 bs)).map fun p=>([(x,PV.fv p.1),(y,PV.fv p.2)]:Row)),∃ i j:Int,r=[(x,.fv (.int i)),(y,.fv (.int j))]:=fun r k=>by
  refine AF (List.mem_map.mp k) fun l J o=>?_;obtain⟨f,g⟩:=l;obtain rfl:=o;refine AF (List.mem_map.mp ((List.of_mem_zip J).1)) fun i z d=>?_;obtain rfl:=d;refine AF (List.mem_map.mp ((List.of_mem_zip J).2)) fun j z t=>?_;obtain rfl:=t;exact(DB i j rfl)
 refine CH (Kp (rows:=(((A5 m).zip (A5 bs)).map fun p=>([(x,PV.fv p.1),(y,PV.fv p.2)]:Row))) (p:=fun r=>match r with | [_,(_,.fv (.int j))]=>j==c | _=>false) (g:=fun r=>match r with | (_,.fv f)::_=>f | _=>.none)
  (T6 hk h1 Y J (by refine Eq.trans (BL ..) ?_;refine Eq.trans ?_ (BL ..).symm;refine Eq.trans hl ?_;rfl) hx Z E H) U T C D (fun r k q V=>?_) (fun r k=>?_) (fun r k K=>?_) (by simp [BL];exact AJ (Nat.min_le_left m.length bs.length) hz) (fun z z=>rfl)) ?_
 ·refine Bj (B r k) fun i j e=>?_;obtain rfl:=e;simp only [List.mem_cons,List.not_mem_nil,or_false]at V;refine Or.elim V (fun G=>?_) (fun F=>?_)
  ·refine AB G ?_;exact E
  ·refine AB F ?_;exact H
 ·refine Bj (B r k) fun i j A=>?_;obtain rfl:=A;exact BU (AA (if_pos rfl) Q M) (AV _ _ _) Cv
 ·refine Bj (B r k) fun i j s=>?_;clear k K;obtain rfl:=s;exact AA (by simp [PE.sets,PE.set,R]) S N
 ·unfold J4 A5;refine AB List.zip_map ?_;refine AB List.map_map ?_;refine AB List.filter_map ?_;refine Eq.trans List.map_map ?_;refine AB List.map_map ?_;rfl
end
theorem IE (elt e y b k:Expr) (sc:Scope) (pos:Pos) (g h:Value) (env:Env) :
  compTurn (.ListComp elt [⟨e,y,[],0⟩,⟨b,k,[],0⟩] sc pos) 0 g h env=(standAt y.pos>>=fun z=>pyNext g>>=fun r=>match r with
   |none=>pure (.done .next)
   |some v=>letOwnedTupleGo e g v>>=fun z=>assign e env v>>=fun z=>
    eval k env>>=fun x=>standAt k.pos>>=fun z=>foldedSetIterable k env x>>=fun x=>holding [x] (pyIter x)>>=fun a=>runOwn (.compStart (.ListComp elt [⟨e,y,[],0⟩,⟨b,k,[],0⟩] sc pos) 1 a h env) env>>=fun z=>
     again (.compLoop (.ListComp elt [⟨e,y,[],0⟩,⟨b,k,[],0⟩] sc pos) 0 g h env)):=by rfl
theorem J5 (elt g y e x:Expr) (sc:Scope) (pos:Pos) (k h:Value) (env:Env) :
  compTurn (.ListComp elt [⟨g,y,[],0⟩,⟨e,x,[],0⟩] sc pos) 1 k h env=(standAt x.pos>>=fun z=>pyNext k>>=fun r=>match r with
   |none=>pure (.done .next)
   |some v=>letOwnedTupleGo e k v>>=fun z=>assign e env v>>=fun z=>Up elt [] h env (.compLoop (.ListComp elt [⟨g,y,[],0⟩,⟨e,x,[],0⟩] sc pos) 1 k h env)):=by rfl
section
variable {w:Wd} {names cn:BC} {oc:List Str} {n:Nat} {A:Around} {env:Env} {s₀ s₁:Shared} {pe DP:PE}
theorem MX {R:Result→Shared→Prop} {a g c y:Expr} {b k:Value} (d:codeAny (MD w) A (.compLoop (.ListComp elt [⟨a,g,[],0⟩,⟨c,y,[],0⟩] sc pos) 1 b k env) R s)
  (h:wpAny (MD w) A (pyIter b) (fun e s'=>codeAny (MD w) A (.compLoop (.ListComp elt [⟨a,g,[],0⟩,⟨c,y,[],0⟩] sc pos) 1 e k env) R s') (notedBy (MD w) A env fun x s'=>R (.error x) s') s) :
  codeAny (MD w) A (.compStart (.ListComp elt [⟨a,g,[],0⟩,⟨c,y,[],0⟩] sc pos) 1 b k env) R s:=by
 refine codeAny_of_tree ?_;refine wpAny_notedAt ?_;refine AD (wpAny_askSetting (wpAny_ite ?_));split
 ·first
   |exact AD (AM (AM (And.intro rfl d)))
   |exact AM (And.intro rfl d)
 ·first
   |exact AD (wpAny_rule (AD (wpAny_standAt (AD (wpAny_mono h (fun e s' h'=>AM (And.intro rfl h')) fun z z x=>x)))))
   |(refine AD (wpAny_rule ?_);exact AD (wpAny_standAt (AD (wpAny_mono h (fun e s' h'=>AM (And.intro rfl h')) fun z z x=>x))))
noncomputable def Lp (I l:Addr) (us:List Value) (i:Nat) (h:Heap):Prop:=h.IsListIter I l i∧h.IsList l us.toArray
theorem NV {j:List Value} {x:Str} (z:A.handled=none) (y:l≠I) (s:Al xs j) (fI:s₀.heap.get? I=none) (u:cn.lookup x=some .local∨(x∈oc∧cn.lookup x=some .cell)) (p:DP x=none) :
  Turn w cn oc n A env s₀ (.ref I) (.Name x px) DP (xs.map fun f=>[(x,.fv f)]) [I,l] (Lp I l j):=by
 have W:=Walks.list (prog:=PR) (w:=w.w) (A:=A) z I l y j.toArray;replace W:=(by exact s.length:j.toArray.size=xs.length)▸W;refine Ff W (BZ.at s) (fun b k=>?_) (fun i h r b k o e=>?_) (fun i h r b k o e=>?_) u p
 ·refine AB (List.mem_singleton.mp k) ?_;exact fI
 ·replace e:=(List.mem_singleton.mp k)▸e;obtain⟨⟨o',m,c,d⟩,_⟩:=r;refine AB (B6 e m) ?_;exact BX d fun q t=>by exact Ne.symm (not_eq_of_beq_eq_false rfl)
 ·obtain⟨⟨o',m,c,d⟩,⟨o2,e2,c2,m2,d2⟩⟩:=r;simp only [List.mem_cons,List.not_mem_nil,or_false]at k;refine Or.elim k (fun g=>?_) (fun a=>?_)
  ·clear y W fI k;obtain rfl:=g;obtain rfl:=(B6 e m);exact⟨As (by refine AB c ?_;exact fun q=>nomatch q),AR d,fun v q=>by injection (d.symm.trans q)⟩
  ·clear y W k d;obtain rfl:=a;clear c2;obtain rfl:=(B6 e e2);exact⟨Ab d2,AG d2,fun v q=>by injection (d2.symm.trans q)⟩
theorem Lp.bO {j:List Value} : IQ [I,l] (Lp I l j i):=fun h h' m k=>by
 refine R' (m) fun x g a f b y=>?_;refine AY (x) fun o e c d=>?_;exact(SD ⟨o,k _ D1 o (As (by refine AB c ?_;exact Wo)) (AR d) (fun v q=>Data.noConfusion (d.symm.trans q)) e,c,d⟩ g (k _ R0 g (Ab y) (AG y) (fun v q=>Data.noConfusion (y.symm.trans q)) a) f b y)
noncomputable def RN (G:FV→List FV) (r:Row):List FV:=match r with
 |[(_,.fv f)]=>G f
 |_=>[]
noncomputable abbrev rws (x:Str) (ys:List FV):List Row:=ys.map fun f=>[(x,.fv f)]
theorem Lq {x:Str} {G:FV→List FV} (l:List FV):(rws x l).flatMap (RN G)=l.flatMap G:=by
 induction l with
 |nil=>rfl
 |cons a l h=>exact congrArg (G a++·) h
theorem RO {x:Str} {r:Row} (h:(rws x ys)[i]? = some r):∃ f,f∈ys∧r=[(x,.fv f)]:=by
 refine AF (List.mem_map.mp (List.mem_of_getElem? h)) fun f h e=>?_;exact(AQ f h e.symm)
theorem Turn.bP {env:Env} {x:Value} {fp gp:List Addr} {y:Nat→Heap→Prop} {K:Heap→Prop} (T:Turn w cn oc n A env s₀ x target DP rows fp y) (l:IQ gp K) (a:∀ b∈gp,b∉fp):Turn w cn oc n A env s₀ x target DP rows fp fun i h=>y i h∧K h:=
 fun i s q f E F c g u j ks=>T i s q f E F c g.1 u j fun r m s' t k e=>ks r m s' t ⟨k,l _ _ g.2 fun b v o z p d=>e b o (a b v) p d⟩ e
theorem IQ.and {fp gp:List Addr} {S K:Heap→Prop} (h:IQ fp S) (k:IQ gp K):IQ (fp++gp) fun h=>S h∧K h:=fun a b y e=>Bt (y) fun p q=>⟨h a b p fun x g=>e x (List.mem_append_left _ g),k a b q fun x g=>e x (List.mem_append_right _ g)⟩
theorem T7 {R:Result→Shared→Prop} {L T S:Expr} {y:Str} {C us₀:List Value} {fs₀:List FV} {G:FV→FV} {gp:List Addr} {K:Heap→Prop} (p:IQ gp K) (H:∀ b∈gp,b∉[I,l]) (x:CI w cn oc n A env s₀ DP D (fun Z Z=>True) (fun h=>Lp I l C 0 h∧K h) DP fs₀ us₀ s₁) (m:Al ys C) (v:l≠I) (fI:s₀.heap.get? I=none)
  (O:cn.lookup y=some .local∨(y∈oc∧cn.lookup y=some .cell)) (c:DP y=none) (u:s₀.heap.get? D=none) (B:D∉[I,l]++gp)
  (a:∀ f∈ys,Ev w cn n (DP.set y (.fv f)) elt (.fv (G f))) (X:fs₀.length+ys.length≤1000)
  (k:∀ vs s',CI w cn oc n A env s₀ DP D (fun Z Z=>True) K DP (fs₀++ys.map G) vs s'→R (.ok .next) s') :
  codeAny (MD w) A (.compLoop (.ListComp elt [⟨L,T,[],0⟩,⟨.Name y p2,S,[],0⟩] sc pos) 1 (.ref I) (.ref D) env) R s₁:=by
 have e:(rws y ys).flatMap (RN fun f=>[G f])=ys.map G:=(Lq ys).trans List.map_eq_flatMap.symm;refine Hv (g:=RN fun f=>[G f]) (fun i s s' h W=>p _ _ h.2 fun b P o Z U N=>W b o (H b P) U N) (J5 _ _ _ _ _ _ _ _ _ _) ((NV x.F.cx.ok.h v m fI O c).bP p H) x (fun h=>B (List.mem_append_left _ h)) (fun Z Z Z Z Z=>trivial)
  (fun i r fs vs s Q E z t I M kk=>?_) (fun vs s' J=>k vs s' (e▸J))
 refine AF (RO z) fun f m d=>?_;clear z;obtain rfl:=d;exact Mo (b:=true) I (fun q V=>List.mem_singleton.mp V▸c) (fun Z Z Z Z Z=>trivial) (Lp.bO.and p) B u rfl (fun Z=>(a f m).j) M (AJ t (by refine AB e ?_;refine AB (List.length_map ..) ?_;exact X)) kk
end
section
variable {w:Wd} {names:BC} {n:Nat} {pe:PE}
theorem HV.set {y:PE} {x:Str} (h:HV env y s₀ s) (k:∃ v,AZ s.heap env x v∧BZ f v):HV env (y.set x (.fv f)) s₀ s:=fun z pv e=>
 if q:z=x then(Ai ((if_pos q).symm.trans e):PV.fv f=pv)▸q.symm▸k else h z pv ((if_neg q).symm.trans e)
theorem RP {G:FV→FV→FV} (l:List FV):(l.flatMap fun f=>ys.map (G f)).length=l.length*ys.length:=by
 induction l with
 |nil=>exact(Nat.zero_mul _).symm
 |cons a l h=>refine AB List.flatMap_cons ?_;refine Eq.trans List.length_append ?_;refine AB h ?_;refine AB (List.length_map ..) ?_;refine AB List.length_cons ?_;refine AB (Nat.succ_mul ..) ?_;refine Eq.trans (Nat.add_comm ..) ?_;rfl
theorem T8 {cn:BC} {oc:List Str} {H:Shared} {c:PE} {O V:Expr} {u t l:Str} {B:Pos} {us vs:List Value} {G:FV→FV} {Q:PySem.Fin→Shared→Prop} (hl:s.heap.IsList a us.toArray) (fI:s.heap.get? I=none) (U:s.heap.get? D=none) (gH:D≠I)
  (S:c u=none) (T:c t=none) (bQ:cn.lookup t=some .local) (Y:t≠u) (h2:c l=some (.list ys)) (hd2:(l==("__debug__" : Str))=false) (hc2:(l==("__classdict__" : Str))=false)
  (N:∀ g∈ys,Ev w cn n ((c.set u (.fv f)).set t (.fv g)) elt (.fv (G g))) (hz:fs.length+ys.length≤1000) (y:CI w cn oc n A env s c D (fun _ _=>True) (Lp I a us (i+1)) (c.sets [(u,.fv f)]) fs vs H)
  (kk:∀ gK s',CI w cn oc n A env s c D (fun _ _=>True) (Lp I a us (i+1)) c (fs++ys.map G) gK s'→wpAny (MD w) A (again (.compLoop (.ListComp elt [⟨O,V,[],0⟩,⟨.Name t p2,.Name l B,[],0⟩] sc pos) 0 (.ref I) (.ref D) env)) Q E s') :
  wpAny (MD w) A (eval (.Name l B) env>>=fun x=>standAt (Expr.Name l B).pos>>=fun _=>foldedSetIterable (.Name l B) env x>>=fun x=>holding [x] (pyIter x)>>=fun gL=>runOwn (.compStart (.ListComp elt [⟨O,V,[],0⟩,⟨.Name t p2,.Name l B,[],0⟩] sc pos) 1 gL (.ref D) env) env>>=fun _=>
     again (.compLoop (.ListComp elt [⟨O,V,[],0⟩,⟨.Name t p2,.Name l B,[],0⟩] sc pos) 0 (.ref I) (.ref D) env)) Q E H:=by
 refine AF (y.hv l _ h2) fun v2 gM p=>?_;refine AW (p) fun l2 iC p M Yw=>?_;obtain rfl:=p;refine AD (HP y.F.cx.eo gM (AD (wpAny_standAt (AD (wpAny_of_eq rfl (AD (wpAny_holding (Pk (y.F.st.list y.F.g0 M) fun J P C gN hJ R=>?_))))))) hd2 hc2);refine Bt (y.st) fun X iD=>?_;refine AY (X) fun oI eI cI dI=>?_;have hs:∀ z pv,c z=some pv→c.set u (.fv f) z=some pv:=fun z pv e=>(if_neg (show z≠u from fun q=>nomatch (q▸e:c u=some pv).symm.trans S)).trans e;have j:=y.F.step C;have W:∀ {b o},s.heap.get? b=none→s.heap.get? l2=some o→b≠l2:=fun {b o} h e q=>nomatch (q▸h:s.heap.get? l2=none).symm.trans e;refine Ap (y.D) fun m eD=>?_;refine AF (M) fun o2 Z r2=>?_;refine AF (y.F.st.list y.F.g0 (AQ o2 Z r2)) fun o5 e5 _=>?_;have bK:codeAny (MD w) A (.compLoop (.ListComp elt [⟨O,V,[],0⟩,⟨.Name t p2,.Name l B,[],0⟩] sc pos) 1 (.ref J) (.ref D) env)
   (fun r s'=>match r with | .ok _=>wpAny (MD w) A (again (.compLoop (.ListComp elt [⟨O,V,[],0⟩,⟨.Name t p2,.Name l B,[],0⟩] sc pos) 0 (.ref I) (.ref D) env)) Q E s' | .error e=>cameBackBy (MD w) A env E e s') P:=
  T7 (gp:=[I]) (K:=fun h=>h.get? I=some oI) (fun h h' e k=>k I D1 oI (As (by refine AB cI ?_;exact Wo)) (AR dI) (fun v q=>Data.noConfusion (dI.symm.trans q)) e) (A0 (Wf (R eI).2 (W fI Z)) Dh)
   ⟨j,(y.hv.mv fun _ _ _ a=>a.step C y.F.cx.gh).set (AF (j.cx.vars u _ (if_pos rfl)) fun v a q=>⟨v,a,q⟩),⟨⟨⟨_,hJ,rfl,rfl⟩,j.st.list j.g0 ⟨o2,Z,r2⟩⟩,(R eI).1⟩,⟨m,(R eD).1⟩,y.f,trivial⟩ Yw (R e5).2 (y.F.st.gone y.F.g0 gN) (.inl bQ) ((if_neg Y).trans T) U
   (fun h=>(List.mem_cons.mp h).elim (R eD).2 (Wf (W U Z) gH)) N hz fun XD L d=>kk XD L ⟨d.F.less hs,fun z pv e=>d.hv z pv (hs z pv e),⟨⟨oI,d.st,cI,dI⟩,d.F.st.list d.F.g0 hl⟩,d.D,d.f,trivial⟩
 refine AD (wpAny_runOwn (MX ?h (wpAny_pyIter_listiter (Aj _ hJ rfl rfl) ?h)));exact codeAny_mono bK fun r s' h=>by
  induction r with
  |ok f=>exact h
  |error e=>exact h
theorem Ox {v M S T:Str} {q1 q2:Pos} {G:FV→FV→FV} (h1:pe S=some (.list xs)) (h2:A3 names sc.names pe T=some (.list ys))
  (gO:(Au names sc.names).lookup v=some .local) (bQ:(Au names sc.names).lookup M=some .local) (B:A3 names sc.names pe v=none) (Z:A3 names sc.names pe M=none) (a1:M≠v)
  (aZ:namesOk sc.names=true) (a0:sc.kind = .function) (U:∀ x∈sc.names,x.2 = .local→sc.names.lookup x.1=some .local) (z:Ci names sc.names pe=true)
  (V:∀ f∈xs,∀ g∈ys,Ev w (Au names sc.names) n (((A3 names sc.names pe).set v (.fv f)).set M (.fv g)) elt (.fv (G f g))) (hz:xs.length*ys.length+ys.length≤1000)
  (Ly:autoParam ((S==("__debug__" : Str))=false) B8) (hc1:autoParam ((S==("__classdict__" : Str))=false) B8) (hd2:autoParam ((T==("__debug__" : Str))=false) B8) (hc2:autoParam ((T==("__classdict__" : Str))=false) B8) :
  FD w names n pe (.ListComp elt [⟨.Name v p1,.Name S q1,[],0⟩,⟨.Name M p2,.Name T q2,[],0⟩] sc pos) (xs.flatMap fun f=>ys.map (G f)):=fun A env s Q E C k=>by
 refine AB (eval_ListComp ..) ?_;obtain⟨cl,O,VY,W⟩:=DA (scope:=sc) (env:=env) fun y hy=>let⟨c,_,i,_⟩:=C5 C z hy;⟨c,i⟩;obtain⟨v1,gP,⟨a,us,rfl,hl,hf⟩⟩:=C.vars S _ h1;refine wpAny_comprehension_free (g:=⟨.Name v p1,.Name S q1,[],0⟩) (gs:=[⟨.Name M p2,.Name T q2,[],0⟩]) rfl (fun _=>rfl) O a0 U (HP C.eo gP ?_ Ly hc1);refine Pk hl fun I j H fI hI up=>?_;have gQ:a≠I:=by obtain⟨o,e,_⟩:=hl;exact(up e).2
 refine wpAny_newObj_type ?_;have xD:Step w j { j with heap:=j.heap.push { cls:=.type "list",dict:=none,data:=.seq ([]:List Value).toArray } }:=Step.push j _;have N:s.heap.get? j.heap.objs.size=none:=H.gone C.gh (fresh_at _);have X:j.heap.objs.size≠I:=Ne.symm (Nat.ne_of_lt (Heap.lt_size hI));refine Kn C (H.trans xD) aZ a0 VY W z fun cenv u gR hC kp p P=>?_;have l:Lp I a us 0 u.heap:=⟨(Aj _ ((fun b o e=>kp b o (Br _ e)) _ _ hI) rfl rfl),p.st.list C.gh hl⟩
 have R:u.heap.PlainList j.heap.objs.size ([]:List Value).toArray:=⟨0,kp _ _ (BD _ rfl)⟩
 have gS:j.heap.objs.size≠a:=fun q=>by obtain⟨o,e,_⟩:=hl;exact nomatch (q▸N:s.heap.get? a=none).symm.trans e
 generalize j.heap.objs.size=D at *;have e:(rws v xs).flatMap (RN fun f=>ys.map (G f))=xs.flatMap fun f=>ys.map (G f):=Lq xs;have L:codeAny (MD w) A (.compLoop (.ListComp elt [⟨.Name v p1,.Name S q1,[],0⟩,⟨.Name M p2,.Name T q2,[],0⟩] sc pos) 0 (.ref I) (.ref D) { cenv with scope:=relabel sc env }) (compPost (MD w) A E none Q (.ref D) cenv.locals) u:=by
  refine Hv (J:=fun _ _=>True) (g:=RN fun f=>ys.map (G f)) (us₀:=[]) (fs₀:=[]) (K:=fun _=>True) (fun _ _ _ _ _=>trivial) (IE _ _ _ _ _ _ _ _ _ _) (NV p.cx.ok.h gQ hf fI (.inl gO) B) ⟨p,P,l,R,trivial,trivial⟩ (Wf X gS) (fun _ _ _ _ _=>trivial) (fun i r fs vs Z2 Q' E' hr hle Y _ kk=>?_) (fun vs s' I'=>?_)
  ·obtain⟨f,gU,rfl⟩:=RO hr;exact T8 hl fI N X B Z bQ a1 h2 hd2 hc2 (V f gU) (AJ (Nat.add_le_add_right (AJ hle (by refine AB e ?_;refine AB (RP ..) ?_;exact Nat.le_of_eq (Nat.zero_add _))) _) hz) Y kk
  ·obtain⟨m,hm⟩:=I'.F.ns;refine(AQ m hm (fun iE sb=>?_))
   obtain⟨o,es,ep,e',d,_⟩:=hm;obtain⟨ml,gl⟩:=I'.D;exact k D vs _ (I'.F.st.write (t:=s'.toks) C.gh sb hC e' fun vs q=>Data.noConfusion (d.symm.trans q)) N ⟨ml,(sb.2 D (by rintro rfl;exact Data.noConfusion (d.symm.trans (congrArg Obj.data (Ai (e'.symm.trans gl)))))).trans gl⟩ (e▸I'.f)
 exact codeAny_compStart_list L (wpAny_pyIter_listiter l.1 L)
end
theorem Cu {i j:Int} (h:i.natAbs<2^40):IntMulOk i j:=IntMulOk.of_left (intBits_le_64 (by exact VL h (DY rfl)) (by exact Kc h (DY rfl)))
theorem bR {i j:Int} (h:j.natAbs<2^40):IntMulOk i j:=IntMulOk.of_right (intBits_le_64 (VL h (DY rfl)) (Kc h (DY rfl)))
theorem Oy (a b:Nat) (e:a≤b):∀ vs:List Value,Al xs vs→∃ g:List Value,slicePick vs.toArray (some (a:Int)) (some (b:Int)) none=g.toArray∧Al ((xs.drop a).take (b-a)) g:=
 fun vs h=>⟨(vs.drop a).take (b-a),by
  refine Eq.trans (slicePick_plain ..) ?_;simp only [Option.elim,clipAt_nat]
  congr 1
  apply List.ext_getElem?;intro i;simp only [List.getElem?_take,List.getElem?_drop,List.size_toArray]
  by_cases x:a≤vs.length
  ·refine AB (Nat.min_eq_left x) ?_
   by_cases y:b≤vs.length
   ·refine AB (Nat.min_eq_left y) ?_;rfl
   ·refine AB (Nat.min_eq_right (Nat.le_of_lt (Nat.not_le.mp y))) ?_
    by_cases k:i<vs.length-a
    ·refine Eq.trans (if_pos k) ?_;refine Eq.trans ?_ (if_pos (Nat.lt_of_lt_of_le k (Nat.sub_le_sub_right (Nat.le_of_lt (Nat.not_le.mp y)) a))).symm;rfl
    ·refine Eq.trans (if_neg k) ?_;split
     ·exact(List.getElem?_eq_none (Nat.sub_le_iff_le_add'.mp (Nat.not_lt.mp k))).symm
     ·rfl
  ·refine AB (Nat.min_eq_right (AJ (Nat.le_of_lt (Nat.not_le.mp x)) e)) ?_;refine AB (Nat.min_eq_right (Nat.le_of_lt (cK x))) ?_;refine Eq.trans (if_neg (by rw [Nat.sub_self];exact Nat.not_lt_zero _)) ?_;split
   ·exact(List.getElem?_eq_none (AJ (Nat.le_of_lt (cK x)) (Nat.le_add_right a _))).symm
   ·rfl,(h.drop a).take _⟩
noncomputable def gI (h:Int→Int):FV→FV
 |.int i=>.int (h i)
 |f=>f
noncomputable def pI (p:Int→Bool):FV→Bool
 |.int i=>p i
 |_=>false
theorem RQ {xs:List Int} {p:Int→Bool} {h:Int→Int} : ((A5 xs).filter (pI p)).map (gI h)=A5 ((xs.filter p).map h):=by
 unfold A5;refine AB List.filter_map ?_;refine Eq.trans List.map_map ?_;refine Eq.trans ?_ List.map_map.symm;rfl
theorem Ds {xs:List Int} (h:f∈A5 xs):∃ i∈xs,f = .int i:=by
 refine AF (List.mem_map.mp h) fun i e k=>?_;clear h;obtain rfl:=k;exact(AQ i e rfl)
section
variable {w:Wd} {names:BC} {oc:List Str} {n:Nat} {own:Option Str} {pe:PE}
theorem E1 {x:Str} {xs:List Int} (p:Int→Bool) (h:Int→Int) (c:Ev w names n pe iter (.list (A5 xs)))
  (o:(Au names sc.names).lookup x=some .local∨(x∈Ct sc.names∧(Au names sc.names).lookup x=some .cell)) (l:A3 names sc.names pe x=none)
  (j:namesOk sc.names=true) (m:sc.kind = .function) (k:∀ x∈sc.names,x.2 = .local→sc.names.lookup x.1=some .local) (g:Ci names sc.names pe=true)
  (a:∀ i∈xs,Ko w (Au names sc.names) n ifs ((A3 names sc.names pe).set x (.fv (.int i))) (p i))
  (y:∀ i∈xs,p i=true→Ev w (Au names sc.names) n ((A3 names sc.names pe).set x (.fv (.int i))) elt (.fv (.int (h i)))) (q:xs.length≤1000)
  (s:autoParam (∀ env x,foldedSetIterable iter env x=pure x) Me) :
  FD w names n pe (.ListComp elt [⟨.Name x px,iter,ifs,0⟩] sc pos) (A5 ((xs.filter p).map h)):=by
 refine Ar RQ ?_;refine Mq c o l j m k g (fun f d=>?_) (fun f d r=>?_) (by refine AB (BL ..) ?_;exact q) s
 ·refine AF (Ds d) fun i c b=>?_;obtain rfl:=b;exact a i c
 ·refine AF (Ds d) fun i c e=>?_;clear d;obtain rfl:=e;exact y i c r
theorem NW {y:Str} {x:Str} {xs:List Int} (h:Int→Int) (q:Ev w names n pe iter (.list (A5 xs)))
  (t:(Au names sc.names).lookup x=some .local∨(x∈Ct sc.names∧(Au names sc.names).lookup x=some .cell)) (s:A3 names sc.names pe x=none)
  (o:namesOk sc.names=true) (r:sc.kind = .function) (e:∀ x∈sc.names,x.2 = .local→sc.names.lookup x.1=some .local) (d:Ci names sc.names pe=true)
  (b:∀ i∈xs,Ev w (Au names sc.names) n ((A3 names sc.names pe).set x (.fv (.int i))) elt (.fv (.int (h i)))) (u:xs.length≤1000)
  (hl:names.lookup y=some .local) (v:py.line=pos.line) (l:(sc.names.any fun(n,k)=>n==y&&(k == .local||k == .cell))=false)
  (z:autoParam (∀ env x,foldedSetIterable iter env x=pure x) Me) :
  N1 w names oc n own pe (.Assign [.Name y py] (.ListComp elt [⟨.Name x px,iter,[],0⟩] sc pos) spos) (some y) (pe.set y (.list (A5 (xs.map h)))):=by
 have c:=Jq (w:=w) (names:=names) (oc:=oc) (n:=n) (own:=own) (pe:=pe) (y:=y) (py:=py) (spos:=spos) (elt:=elt) (iter:=iter) (x:=x) (px:=px) (ifs:=[]) (sc:=sc) (pos:=pos) (xs:=A5 xs) (p:=pI fun Z=>true) (g:=gI h) q t s o r e d
  (fun f m=>by refine AF (Ds m) fun i Z a=>?_;obtain rfl:=a;rfl) (fun f m Z=>by refine AF (Ds m) fun i q j=>?_;obtain rfl:=j;exact b i q) (by refine AB (BL ..) ?_;exact u) hl v l z
 rw [RQ]at c;rwa [K9]at c
noncomputable def gJ (h:Int→Int):FV→Int
 |.int i=>h i
 |_=>0
theorem IF {x:Str} {xs:List Int} (h:Int→Int) (j:Ev w names n pe iter (.list (A5 xs)))
  (p:(Au names sc.names).lookup x=some .local) (m:A3 names sc.names pe x=none)
  (d:namesOk sc.names=true) (l:sc.kind = .function) (k:∀ x∈sc.names,x.2 = .local→sc.names.lookup x.1=some .local) (a:Ci names sc.names pe=true)
  (y:∀ i∈xs,Wh w (Au names sc.names) n ((A3 names sc.names pe).set x (.fv (.int i))) elt (.fv (.int (h i))) IW True) (q:xs.length≤1000)
  (r:autoParam (∀ env x,foldedSetIterable iter env x=pure x) Me) :
  Ev w names n pe (.ListComp elt [⟨.Name x px,iter,[],0⟩] sc pos) (.BN (xs.map h)):=by
 have c:=Sx (w:=w) (names:=names) (n:=n) (pe:=pe) (elt:=elt) (iter:=iter) (x:=x) (px:=px) (sc:=sc) (pos:=pos) (xs:=A5 xs) (g:=gJ h) j p m d l k a
  (fun f o=>by refine AF (Ds o) fun i j b=>?_;clear o;obtain rfl:=b;exact y i j) (by refine AB (BL ..) ?_;exact q) r
 have e:(A5 xs).map (gJ h)=xs.map h:=by refine Eq.trans List.map_map ?_;rfl
 rwa [e]at c
theorem HY {t:Pos} {c P:Addr} {params:Arguments} {body:Expr} (o:names.lookup "_law_ask" = some .globalImplicit) (M:Maker w names c P q) (r:names.ql++"<lambda>" = q)
  (x:∀ env,defaultsOf params env=([],[])) (g:Ci names sc.names pe=true) (i:namesOk sc.names=true) (a:sc.isCoroutine=false) (y:sc.isGenerator=false) (d:sc.kind = .function)
  (k:∀ l m e b,bindArgs (kla_fn "<lambda>" q params body sc l m e b) ⟨[],[]⟩=pure [])
  (h:∃ out,(∀ e,Kt w ⟨sc.names,e,q++".<locals>."⟩ n (A3 names sc.names pe) body out)∧N6 out = .fv f∧∀ cls,out = .exc cls→cls = .ref 102) :
  Ev w names (n+2) pe (.Call (.Name "_law_ask" np) [.Lambda params body sc t] [] pos) (.fv f):=by
 refine AY (h) fun out p s j=>?_;refine Ar s ?_;exact Pq o M r x g i a y d k p j
end
noncomputable def D0 (w:Wd) (n:Nat) (fn:Value) (SJ:List PV) (nm:List Str) (XF:List PV) (f:FV):Prop:=∃ out,Dm w n fn SJ nm XF out∧N6 out = .fv f∧∀ cls,out = .exc cls→cls = .ref 102
theorem GN (l:List (Str×PV)):∀ (pe:PE) (x:Str) (pv:PV),(pe.sets l) x=some pv→(x,pv)∈l∨pe x=some pv:=by
 induction l with
 |nil=>exact fun z z z h=>.inr h
 |cons p l k=>exact fun pe x pv h=>(k _ x pv h).elim (fun h=>.inl (.tail _ h)) fun h=>
  if hx:x=p.1 then .inl (by
   have h:=Ai ((if_pos hx).symm.trans h);refine AB hx ?_;refine Ar h ?_;exact D1)else .inr ((if_neg hx).symm.trans h)
noncomputable abbrev Ec (l:List (Str×PV)):PE:=PE.sets (fun z=>none) l
section
variable {w:Wd} {names:BC} {oc:List Str} {n:Nat} {own:Option Str} {pe:PE} {out:Out}
theorem MY {l:List (Str×PV)} {pe:PE} (h:l.map (fun p=>pe p.1)=l.map fun p=>some p.2):∀ p∈l,pe p.1=some p.2:=List.map_inj_left.mp h
theorem GO {l:List (Str×PV)} (h:∀ p∈l,pe p.1=some p.2) (g:Bo w names oc n none (Ec l) body out):Bo w names oc n own pe body out:=
 fun s₀ A env y s Q E a hl F k=>g s₀ A env y s Q E a hl (F.less fun x pv e=>by
  refine Or.elim (GN l _ x pv e) (fun e=>?_) (fun e=>?_)
  ·exact h _ e
  ·injection e) k
theorem Gq {x:Str} (hl:names.lookup x=some .cell):∀ env,D7 names env→swapsWith (.ListComp elt gens sc pos) (some (.Name x px)) spos.line env=pure false:=fun env h=>by
 have k:env.kindOf x=some .cell:=by show env.scope.names.lookup x=_;refine AB h.nm ?_;exact hl
 unfold swapsWith;simp only [k];show(pure (_:Bool):Sem Bool)=_;have:(some NameKind.cell==some NameKind.local)=false:=by rfl
 simp [this]
set_option exponentiation.threshold 2000 in
theorem CS {i j:Int} (k:j≠0) (h:i.natAbs<2^60):D2 w .Div (.int i) (.int j) (.AS (qf i j)):=Jc k (Nat.lt_of_lt_of_le h (Nat.pow_le_pow_right Nat.zero_lt_two (Bh rfl)))
end
noncomputable abbrev FU (w:Wd):BC:=NM Ip
noncomputable abbrev J6 (w:Wd):List Str:=OC Ip
noncomputable abbrev J7 (k:Nat):List Stmt:=(Ag (BM 28)).drop k
noncomputable def Aa (ns:List Int):List Int:=((ns++[2,7,4]).drop 1).take 6
noncomputable def BJ (ns:List Int):Int:=(ns.take 1++ns.drop 7).sum
noncomputable def Cm (cs:List Int):List Int:=cs.map fun x=>x.fmod 2
noncomputable def B7 (od:List Int):List Int:=od.map fun f=>1-f
noncomputable def HJ (cs:List Int) (hd:Int):Int:=1+(hd.fdiv 2).fmod ((cs.length:Int)-1)
noncomputable def E4 (cs:List Int) (hd:Int):List Int:=
 if hd.fmod 2=1 then((Cm cs).drop (HJ cs hd).toNat++(Cm cs).take (HJ cs hd).toNat).map fun f=>6*f else cs.map fun x=>(x.fdiv 2).fmod 7
noncomputable def Cq (cs:List Int) (hd:Int):List Int:=(E4 cs hd).map fun r=>(cs.length:Int)*(r+(hd.fdiv 7).fmod 100)
theorem T9 (a b:List Int):A5 a++A5 b=A5 (a++b):=by simp [A5]
theorem JN {ns:List Int} : (Aa ns).length=min 6 (ns.length+2):=by simp [Aa]
set_option maxHeartbeats 1000000 in
theorem YM {ns:List Int} {out:Out} (v:ns.length≤63)
  (h:Bo w (FU w) (J6 w) (n+12) none (Ec [("head",.fv (.int (BJ ns))),("n",.fv (.int ((Aa ns).length:Int))),("odd",.list (A5 (Cm (Aa ns)))),("even",.list (A5 (B7 (Cm (Aa ns))))),("worths",.BN (Cq (Aa ns) (BJ ns)))]) (J7 8) out) :
  Bo w (FU w) (J6 w) (n+12) none (Ec [("script",.list (A5 ns))]) (J7 0) out:=by
 have B:(Aa ns).length=min 6 (ns.length+2):=JN;have c:2≤(Aa ns).length:=W3 B
 have e:(Aa ns).length≤6:=B▸Nat.min_le_left _ _;have m:∀ k,((Cm (Aa ns)).drop k++(Cm (Aa ns)).take k).length≤6:=fun k=>by refine AB List.length_append ?_;refine AB List.length_drop ?_;refine AB List.length_take ?_;refine AB (List.length_map ..) ?_;exact AJ (Nat.le_of_eq Wr) e
 have u:(Aa ns).length≤1000:=AJ e (Bh rfl);have d:(A5 ns).length≤63:=(BL _).symm▸v;have y:(Cm (Aa ns)).length≤6:=by unfold Cm;refine AB (List.length_map ..) ?_;exact e
 have s:(A5 (Cm (Aa ns))).length≤1000:=(BL _).symm▸AJ y (Bh rfl)
 refine AN (AL (pv:=.list (A5 (Aa ns))) (FD.ev (CH (D9 (a:=some ((1:Nat):Int)) (b:=some ((7:Nat):Int)) (FD.ev (F5 (ys:=A5 [2,7,4]) (AA rfl) (FD.ev (BH (fs:=A5 [2,7,4]) (AE (AV _ _ _) (AE (AV _ _ _) (AE (AV _ _ _) AK))))) (AJ (Nat.add_le_add_right d _) (Bh rfl)))) (AV _ _ _) (AV _ _ _) (by refine AB List.length_append ?_;exact AJ (Nat.add_le_add_right d _) (Bh rfl)) (Oy 1 7 (Bh rfl))) ?_)) (.inl rfl)) ?_
 ·simp only [Aa,A5,List.map_take,List.map_drop,List.map_append]
 refine AN (AL (pv:=.fv (.int (BJ ns))) (BG Jn rfl (nm:=[]) rfl rfl (AE (FD.ev (CH (F5 (FD.ev (D9 (a:=none) (b:=some ((1:Nat):Int)) (AA rfl) trivial (AV _ _ _) (AJ d (Bh rfl)) (I3 1))) (FD.ev (D9 (a:=some ((7:Nat):Int)) (b:=none) (AA rfl) (AV _ _ _) trivial (AJ d (Bh rfl)) (pick_from 7))) (AJ (Nat.add_le_add (List.length_take_le _ _) (List.drop_sublist _ _).length_le) (AJ (Nat.add_le_add_left d _) (Bh rfl)))) (?_:_=A5 (ns.take 1++ns.drop 7)))) AK) Ad Jh) (.inr ⟨DI rfl,rfl⟩)) ?_
 ·simp [A5,List.map_take,List.map_drop]
 refine AN (AL (pv:=.fv (.int ((Aa ns).length:Int))) (Cw (EM (xs:=A5 (Aa ns)) rfl rfl ((BL _).symm▸u)) (by refine AB (BL ..) ?_;rfl)) (.inr ⟨DI rfl,rfl⟩)) ?_
 refine AN (Dz (xs:=A5 (Cm (Aa ns))) (CH (E1 (fun Z=>true) (fun x=>x.fmod 2) (AA rfl) (.inl rfl) rfl (by decide) rfl (by decide) rfl (fun Z Z=>rfl) (fun i t Z=>AI (AA rfl) (AV _ _ _) (Fc (by decide) (by decide))) (by exact u)) (by refine AB K9 ?_;rfl)) (.inr ⟨DI rfl,rfl⟩) (Gq rfl)) ?_
 refine AN (Dz (xs:=A5 (B7 (Cm (Aa ns)))) (CH (E1 (fun Z=>true) (fun f=>1-f) (AA rfl) (.inl rfl) rfl (by decide) rfl (by decide) rfl (fun Z Z=>rfl) (fun i t Z=>AI (AV _ _ _) (AA rfl) CL) (AJ y (by decide))) (by refine AB K9 ?_;rfl)) (.inr ⟨DI rfl,rfl⟩) (Gq rfl)) ?_
 refine AN (NW (fun x=>(x.fdiv 2).fmod 7) (AA rfl) (.inl rfl) rfl (by decide) rfl (by decide) rfl (fun i t=>AI (AI (AA rfl) (AV _ _ _) (Ja (by decide) (by decide))) (AV _ _ _) (Fc (by decide) (by decide))) (by exact u) rfl rfl rfl) ?_;refine RG (b:=(BJ ns).fmod 2==1) (An (BU (AI (AA rfl) (AV _ _ _) (Fc (by decide) (by decide))) (AV _ _ _) Cv) rfl) ?_
 have j:∀ {own:Option Str} {pe:PE} {q:List Int},q.length≤6→pe "rests" = some (.list (A5 q))→pe "head" = some (.fv (.int (BJ ns)))→pe "n" = some (.fv (.int ((Aa ns).length:Int)))→pe "odd" = some (.list (A5 (Cm (Aa ns))))→pe "even" = some (.list (A5 (B7 (Cm (Aa ns)))))→
   q=E4 (Aa ns) (BJ ns)→Bo w (FU w) (J6 w) (n+12) own pe (J7 7) out:=fun {own pe q} hl H F I E G z=>by
  refine GO (l:=[("head",.fv (.int (BJ ns))),("n",.fv (.int ((Aa ns).length:Int))),("odd",.list (A5 (Cm (Aa ns)))),("even",.list (A5 (B7 (Cm (Aa ns))))),("rests",.list (A5 q))]) (by simp only [List.mem_cons,List.not_mem_nil,or_false];rintro p (rfl | rfl | rfl | rfl | rfl)<;>assumption) ?_;refine AN (AL (pv:=.BN (Cq (Aa ns) (BJ ns))) (Cw (IF (fun r=>((Aa ns).length:Int)*(r+((BJ ns).fdiv 7).fmod 100)) (AA rfl) rfl rfl (by decide) rfl (by decide) rfl (fun i t=>Ju trivial (AA rfl) (AI (AA rfl) (AI (AI (AA rfl) (AV _ _ _) (Ja (by decide) (by decide))) (AV _ _ _) (Fc (by decide) (by decide))) En) (M9 (Cu (by exact Nv e (DY rfl))))) (by exact AJ hl (Nat.le_add_left 6 994))) (by refine AB z ?_;rfl)) (.inr ⟨DI rfl,rfl⟩) (Gq rfl)) ?_;refine GO (MY rfl) h
 cases hb:(BJ ns).fmod 2==1 with
 |false=>
  refine j (by refine AB (List.length_map ..) ?_;exact e) rfl rfl rfl rfl rfl ?_;unfold E4;refine AB (if_neg (by simpa using hb)) ?_;rfl
 |true=>
  have C:(1:Int)≤(Aa ns).length-1:=R5 c;have o:=Int.fmod_nonneg_of_pos ((BJ ns).fdiv 2) (show(0:Int)<(Aa ns).length-1 by exact C);have A:=Int.fmod_lt_of_pos ((BJ ns).fdiv 2) (show(0:Int)<(Aa ns).length-1 by exact C);have g:((HJ (Aa ns) (BJ ns)).toNat:Int)=HJ (Aa ns) (BJ ns):=Int.toNat_of_nonneg (by unfold HJ;exact Int.add_nonneg (DY rfl) o);have D:(HJ (Aa ns) (BJ ns)).toNat≤6:=by unfold HJ;exact Zr o A e
  refine AN (AL (pv:=.fv (.int (HJ (Aa ns) (BJ ns)))) (AI (AV _ _ _) (AI (AI (AA rfl) (AV _ _ _) (Ja (by decide) (by decide))) (AI (AA rfl) (AV _ _ _) CL) (Fc (by exact VJ c) (by exact ZV c e (DY rfl)))) En) (.inl rfl)) ?_;refine AN (NW (xs:=(Cm (Aa ns)).drop (HJ (Aa ns) (BJ ns)).toNat++(Cm (Aa ns)).take (HJ (Aa ns) (BJ ns)).toNat) (fun f=>6*f)
   (FD.ev (CH (F5 (FD.ev (D9 (a:=some ((HJ (Aa ns) (BJ ns)).toNat:Int)) (b:=none) (AA rfl) (Cw (AA rfl) (by refine AB g ?_;rfl)) trivial s (pick_from _))) (FD.ev (D9 (a:=none) (b:=some ((HJ (Aa ns) (BJ ns)).toNat:Int)) (AA rfl) trivial (Cw (AA rfl) (by refine AB g ?_;rfl)) s (I3 _))) (AJ (Nat.add_le_add (List.drop_sublist _ _).length_le (List.take_sublist _ _).length_le) (by refine AB (BL ..) ?_;exact AJ (Nat.add_le_add y y) (by decide)))) (by simp [A5,List.map_take,List.map_drop])))
   (.inl rfl) rfl (by decide) rfl (by decide) rfl (fun i t=>AI (AV _ _ _) (AA rfl) (BO (Cu (by decide)))) (AJ (m _) (by decide)) rfl rfl rfl) ?_
  refine j (by refine AB (List.length_map ..) ?_;exact m _) rfl rfl rfl rfl rfl ?_;unfold E4;refine AB (if_pos (by simpa using hb)) ?_;rfl
noncomputable def By (od:List Int):Int:=od.sum
noncomputable def B3 (od:List Int):Int:=(B7 od).sum
noncomputable def DN (od:List Int) (f:Int):Int:=B3 od*f-By od*(1-f)
noncomputable def Av (od:List Int):List Int:=od.map (DN od)
theorem bl {a:Int} {A:Nat} (h:a.natAbs≤A) (k:autoParam (A<B) B8):a.natAbs<B:=Nat.lt_of_le_of_lt h k
theorem bd {a:Int} {A:Nat} (h:a.natAbs≤A) (k:autoParam (A≤B) B8):a.natAbs≤B:=AJ h k
noncomputable def HG (od wo:List Int):List Int:=J4 1 wo od
noncomputable def HH (od wo:List Int):List Int:=J4 0 wo od
noncomputable def Dt (od wo:List Int):Int:=B3 od*(HG od wo).sum-By od*(HH od wo).sum
noncomputable def YN (od wo:List Int):List FV:=
 (if By od*B3 od=0 then [.none,.none]else [.AS (qf (Dt od wo) (By od*B3 od*(od.length:Int))),.AS (qf wo.sum (od.length:Int))])++[.AS (qf (Dt od wo) ((od.length:Int)-1))]++
  (if By od=0 then [.none,.none]else [.AS (qf (HG od wo).sum (By od)),.AS (qf (HG od wo).sum (By od))])++
  (if B3 od=0 then [.none,.none]else [.AS (qf (HH od wo).sum (B3 od)),.AS (qf (HH od wo).sum (B3 od))])
theorem RR (a:Int):0≤a*a:=by
 refine Or.elim (Int.le_total 0 a) (fun h=>?_) (fun h=>?_)
 ·exact Int.mul_nonneg h h
 ·exact Int.mul_nonneg_of_nonpos_of_nonpos h h
theorem Cr (l:List Int) (B:Nat):(∀ v∈l,v.natAbs≤B)→l.sum.natAbs≤l.length*B:=by
 induction l with
 |nil=>exact fun z=>Nat.zero_le _
 |cons a l e=>
  intro h;refine AB List.sum_cons ?_;refine AB List.length_cons ?_;refine AB (Nat.succ_mul ..) ?_;refine AB (Nat.add_comm ..) ?_;exact AJ (Int.natAbs_add_le _ _) (Nat.add_le_add (h a D1) (e fun v k=>h v (.tail _ k)))
theorem HZ {c:Int} {x:List Int} {v:Int} (h:v∈J4 c x bs):v∈x:=by
 refine AF (List.mem_map.mp h) fun e y k=>?_;obtain⟨a,b⟩:=e;clear h;obtain rfl:=k;exact(List.of_mem_zip (List.mem_filter.mp y).1).1
theorem NX {c:Int} {h:List Int} : (J4 c h bs).length≤h.length:=by
 unfold J4;refine AB (List.length_map ..) ?_;refine AJ (List.length_filter_le _ _) ?_;refine AB List.length_zip ?_;exact Nat.min_le_left _ _
structure B1 (od wo:List Int):Prop where
 len:wo.length=od.length
 lo:2≤od.length
 hi:od.length≤6
 bit:∀ f∈od,f=0∨f=1
 wb:∀ v∈wo,v.natAbs≤1000
theorem Lr (l:List Int):(∀ f∈l,f=0∨f=1)→0≤l.sum∧l.sum≤l.length∧(B7 l).sum=l.length-l.sum:=by
 induction l with
 |nil=>exact fun z=>by decide
 |cons a l x=>
  intro h;have b:=h a D1;refine CK (x fun v k=>h v (.tail _ k)) fun c y g=>?_;have e:(B7 (a::l)).sum=1-a+(B7 l).sum:=rfl;refine AB e ?_;refine AB List.sum_cons ?_;refine AB List.length_cons ?_
  have p:0≤a∧a≤1:=by rcases b with rfl | rfl<;>decide
  exact⟨Int.add_nonneg p.1 c,Int.add_comm a l.sum▸Int.add_le_add y p.2,by rw [g];push_cast;lia⟩
theorem AO {a b:Int} {A:Nat} (k:a.natAbs≤A) (h:b.natAbs≤B):(a*b).natAbs≤A*B:=by refine AB (Int.natAbs_mul ..) ?_;exact Nat.mul_le_mul k h
theorem GQ {a b:Int} {A:Nat} (k:a.natAbs≤A) (h:b.natAbs≤B):(a+b).natAbs≤A+B:=AJ (Int.natAbs_add_le _ _) (Nat.add_le_add k h)
theorem FK {a b:Int} {A:Nat} (k:a.natAbs≤A) (h:b.natAbs≤B):(a-b).natAbs≤A+B:=AJ (Int.natAbs_sub_le _ _) (Nat.add_le_add k h)
structure MZ (od wo:List Int):Prop where
 Y2:0≤By od
 dU:By od≤6
 Y3:0≤B3 od
 Wm:B3 od≤6
 sum:By od+B3 od=od.length
 up:(HG od wo).sum.natAbs≤6000
 lo:(HH od wo).sum.natAbs≤6000
 ws:wo.sum.natAbs≤6000
 le:(Dt od wo).natAbs≤72000
 RS:(HG od wo).length≤6
 NY:(HH od wo).length≤6
theorem B1.Ie {e:List Int} (h:B1 e wo):MZ e wo:=by
 refine CK (Lr e h.bit) fun f l d=>?_;have hl:=h.hi;have x:=h.len;have o:(HG e wo).length≤6:=AJ NX (le_of_eq_of_le x hl);have n:(HH e wo).length≤6:=AJ NX (AJ (Nat.le_of_eq x) hl);have j:(HG e wo).sum.natAbs≤6000:=AJ (Cr _ 1000 fun v g=>h.wb v (HZ g)) (Nat.mul_le_of_le_div 1000 (HG e wo).length 6000 o);have m:(HH e wo).sum.natAbs≤6000:=AJ (Cr _ 1000 fun v g=>h.wb v (HZ g)) (Nat.mul_le_of_le_div 1000 (HH e wo).length 6000 n);have p:wo.sum.natAbs≤6000:=AJ (Cr _ 1000 h.wb) (Nat.mul_le_mul_right 1000 (le_of_eq_of_le x hl));have i:(By e).natAbs≤6:=by unfold By;exact AJ (Uk f l) hl
 have y:(B3 e).natAbs≤6:=Uk (k:=6) (show 0≤(B7 e).sum from d▸Int.sub_nonneg.mpr l) (show(B7 e).sum≤6 from d▸Int.le_trans (Int.sub_le_self _ f) (Int.ofNat_le.mpr hl));refine⟨f,Int.le_trans l (Int.ofNat_le.mpr hl),(show 0≤(B7 e).sum from d▸Int.sub_nonneg.mpr l),(show(B7 e).sum≤6 from d▸Int.le_trans (Int.sub_le_self _ f) (Int.ofNat_le.mpr hl)),by unfold By B3;exact Eq.symm ((fun {b a c}=>Int.sub_eq_iff_eq_add'.mp) (id (Eq.symm d))),j,m,p,?_,o,n⟩
 exact FK (A:=6*6000) (B:=6*6000) (AO y j) (AO i m)
theorem MZ.on {h:List Int} (b:MZ h wo):(By h).natAbs≤6:=Uk (k:=6) b.Y2 b.dU
theorem MZ.ot {h:List Int} (b:MZ h wo):(B3 h).natAbs≤6:=Uk (k:=6) b.Y3 b.Wm
theorem MZ.pq {h:List Int} (b:MZ h wo):(By h*B3 h).natAbs≤36:=AO (A:=6) (B:=6) b.on b.ot
theorem B1.codes {x:List Int} (h:B1 x wo):∀ v∈Av x,v.natAbs≤6:=fun v e=>by
 have b:=h.Ie;refine AF (List.mem_map.mp e) fun f y k=>?_;clear e;obtain rfl:=k;rcases h.bit f y with rfl | rfl<;>unfold DN
 ·rw [Int.mul_zero,Int.sub_zero,Int.mul_one,Int.zero_sub,Int.natAbs_neg];exact b.on
 ·rw [Int.mul_one,Int.sub_self,Int.mul_zero,Int.sub_zero];exact b.ot
section
variable {w:Wd} {names:BC} {n:Nat} {pe:PE}
theorem DR {x:Str} {h:Pos} {ns:List Int} (e:names.lookup "sum" = some .globalImplicit) (k:Ev w names n pe (.Name x h) (.list (A5 ns))):Ev w names n pe (.Call (.Name "sum" np) [.Name x h] [] pos) (.fv (.int ns.sum)):=
 BG Jn e rfl (nm:=[]) rfl (AE k AK) Ad Jh
theorem Du (h:fs.length≤100):fs.length≤sizeLine:=AJ h (Nat.le_add_left 100 16777116)
end
noncomputable def Y4 (od wo:List Int) (hd:Int):List (Str×PV):=[("head",.fv (.int hd)),("n",.fv (.int (od.length:Int))),("odd",.list (A5 od)),("even",.list (A5 (B7 od))),("worths",.BN wo)]
noncomputable def Y5 (od wo:List Int) (hd:Int):List (Str×PV):=Y4 od wo hd++([("ones",.fv (.int (By od))),("others",.fv (.int (B3 od))),("codes",.BN (Av od)),("upper",.list (A5 (HG od wo))),("lower",.list (A5 (HH od wo))),("lone",.fv (.bool (By od*B3 od==0)))]:List (Str×PV))
theorem NZ {z a l:Pos} {params:Arguments} {x:Str} (C:D0 w (n+10) (.ref 329) [pv] [] [] f) (s:∀ h,Ev w ⟨sc.names,h,"law.<locals>.<lambda>"++".<locals>."⟩ (n+10) (A3 (FU w) sc.names pe) (.Name x a) pv)
  (m:sc.names.lookup ("fmean" : Str)=some .globalImplicit) (y:∀ env,defaultsOf params env=([],[])) (e:Ci (FU w) sc.names pe=true) (i:namesOk sc.names=true) (j:sc.isCoroutine=false) (g:sc.isGenerator=false) (d:sc.kind = .function)
  (k:∀ r v h b,bindArgs (kla_fn "<lambda>" "law.<locals>.<lambda>" params (.Call (.Name "fmean" fp) [.Name x a] [] l) sc r v h b) ⟨[],[]⟩=pure []) :
  Ev w (FU w) (n+12) pe (.Call (.Name "_law_ask" np) [.Lambda params (.Call (.Name "fmean" fp) [.Name x a] [] l) sc z] [] pos) (.fv f):=by
 refine AY (C) fun out p u t=>?_;exact HY (n:=n+10) (c:=449) (P:=447) (q:="law.<locals>.<lambda>") rfl Jo (by kernel_rfl) y e i j g d k
  (Aj out (fun h=>Bb Le m (o:=Ee) rfl rfl rfl (nm:=[]) rfl (AE (s h) AK) Ad p) u t)
theorem Ha {E d b r:Pos} {params:Arguments} {x y:Str} {p:PV} (C:D0 w (n+10) (.ref 329) [pv,p] [] [] f) (z:∀ h,Ev w ⟨sc.names,h,"law.<locals>.<lambda>"++".<locals>."⟩ (n+10) (A3 (FU w) sc.names pe) (.Name x d) pv)
  (v:∀ h,Ev w ⟨sc.names,h,"law.<locals>.<lambda>"++".<locals>."⟩ (n+10) (A3 (FU w) sc.names pe) (.Name y b) p)
  (s:sc.names.lookup ("fmean" : Str)=some .globalImplicit) (g:∀ env,defaultsOf params env=([],[])) (e:Ci (FU w) sc.names pe=true) (l:namesOk sc.names=true) (m:sc.isCoroutine=false) (a:sc.isGenerator=false) (j:sc.kind = .function)
  (k:∀ u D h i,bindArgs (kla_fn "<lambda>" "law.<locals>.<lambda>" params (.Call (.Name "fmean" fp) [.Name x d,.Name y b] [] r) sc u D h i) ⟨[],[]⟩=pure []) :
  Ev w (FU w) (n+12) pe (.Call (.Name "_law_ask" np) [.Lambda params (.Call (.Name "fmean" fp) [.Name x d,.Name y b] [] r) sc E] [] pos) (.fv f):=by
 refine AY (C) fun out t B A=>?_;exact HY (n:=n+10) (c:=449) (P:=447) (q:="law.<locals>.<lambda>") rfl Jo (by kernel_rfl) g e l m a j k
  (Aj out (fun h=>Bb Le s (o:=Ee) rfl rfl rfl (nm:=[]) rfl (AE (z h) (AE (v h) AK)) Ad t) B A)
set_option maxHeartbeats 2000000 in
theorem YO {od:List Int} {out:Out} {tl:List FV} {cv:UInt64} {f1 f2 f3 f4:FV} (K:B1 od wo)
  (bS:Dm w (n+12) (.ref 440) [.list (A5 (Av od)),.list (A5 wo)] [] [] (.ret (.list tl))) (bT:Dm w (n+12) (.ref 343) [.list (A5 (Av od)),.list (A5 wo)] [] [] (.ret (.fv (.AS cv))))
  (a1:D0 w (n+10) (.ref 329) [.list (A5 (HG od wo))] [] [] f1) (a2:D0 w (n+10) (.ref 329) [.list (A5 wo),.list (A5 od)] [] [] f2) (a3:D0 w (n+10) (.ref 329) [.list (A5 (HH od wo))] [] [] f3) (a4:D0 w (n+10) (.ref 329) [.list (A5 wo),.list (A5 (B7 od))] [] [] f4)
  (gV:HE (((tl++[.AS cv])++[f1,f2])++[f3,f4]) (YN od wo)) (VA:tl.length≤10)
  (h:Bo w (FU w) (J6 w) (n+12) none (Ec (Y5 od wo hd)) (J7 23) out) :
  Bo w (FU w) (J6 w) (n+12) none (Ec (Y4 od wo hd)) (J7 8) out:=by
 have b:=K.Ie;have hlo:=K.lo;have VB:=K.hi;have hlen:=K.len;have dW:=b.up;have YP:=b.lo;have hle:=b.le;have dX:=b.NY
 refine AN (AL (pv:=.fv (.int (By od))) (DR rfl (AA rfl)) (.inr ⟨DI rfl,rfl⟩)) ?_;refine AN (AL (pv:=.fv (.int (B3 od))) (DR rfl (AA rfl)) (.inr ⟨DI rfl,rfl⟩)) ?_;refine AN (AL (pv:=.BN (Av od)) (IF (fun f=>DN od f) (AA rfl) rfl rfl (by rfl) rfl (by decide) rfl (fun i hi=>Ju trivial (AI (AA rfl) (AA rfl) (BO (Cu (bl b.ot)))) (AI (AA rfl) (AI (AV _ _ _) (AA rfl) CL) (BO (Cu (bl b.on)))) Sw) (AJ VB (Bh rfl))) (.inr ⟨DI rfl,rfl⟩) (Gq rfl)) ?_
 refine AN (Dz (xs:=A5 (HG od wo)) (NU (bs:=od) (c:=1) rfl (Ev.KS (AA rfl)) (AA rfl) rfl hlen (hlen▸AJ VB (Bh rfl)) rfl rfl rfl rfl (by decide) (by rfl) rfl (by decide) rfl) (.inr ⟨DI rfl,rfl⟩) (Gq rfl)) ?_;refine AN (Dz (xs:=A5 (HH od wo)) (NU (bs:=od) (c:=0) rfl (Ev.KS (AA rfl)) (AA rfl) rfl hlen (hlen▸AJ VB (Bh rfl)) rfl rfl rfl rfl (by decide) (by rfl) rfl (by decide) rfl) (.inr ⟨DI rfl,rfl⟩) (Gq rfl)) ?_
 refine AN (AL (pv:=.fv (.int (Dt od wo))) (AI (AI (AA rfl) (DR rfl (AA rfl)) (BO (Cu (bl b.ot)))) (AI (AA rfl) (DR rfl (AA rfl)) (BO (Cu (bl b.on)))) CL) (.inl rfl)) ?_;refine AN (AL (pv:=.fv (.bool (By od*B3 od==0))) (C4 (AI (AA rfl) (AA rfl) (BO (Cu (bl b.on)))) (AV _ _ _) Cv) (.inl rfl)) ?_
 refine AN (Dz (xs:=(if By od*B3 od=0 then [.none,.none]else [.AS (qf (Dt od wo) (By od*B3 od*(od.length:Int))),.AS (qf wo.sum (od.length:Int))])) (Jd (b:=By od*B3 od==0) (Az (f:=.bool (By od*B3 od==0)) (AA rfl)) (fun hb=>CH (BH (fs:=[.none,.none]) (AE (Bw _ _) (AE (Bw _ _) AK)) (Du (by decide))) ((if_pos (by exact Int.Internal.Linear.mul_eq_kk (By od) (B3 od) (By od) (B3 od) 0 rfl rfl hb)).symm))
  (fun hb=>CH (BH (fs:=[.AS (qf (Dt od wo) (By od*B3 od*(od.length:Int))),.AS (qf wo.sum (od.length:Int))]) (AE (AI (AA rfl) (AI (AI (AA rfl) (AA rfl) (BO (Cu (bl b.on)))) (AA rfl) (BO (Cu (bl (AO (A:=6) (B:=6) b.on b.ot))))) (CS (Int.mul_ne_zero (not_eq_of_beq_eq_false hb) (Kb hlo)) (bl hle))) (AE (AI (DR rfl (Ev.KS (AA rfl))) (AA rfl) (CS (Kb hlo) (bl b.ws))) AK)) (Du (List.getElem?_eq_none_iff.mp rfl))) (by refine Eq.trans ?_ (if_neg (not_eq_of_beq_eq_false hb)).symm;rfl))) (.inl rfl)) ?_
 have Ly:∀ {a b:List FV} {c:Prop} [Decidable c],a.length=2→b.length=2→(if c then a else b).length=2:=fun {a b c z} h1 h2=>by split<;>assumption
 refine AN (D' (f:=.AS (qf (Dt od wo) ((od.length:Int)-1))) rfl (AI (AA rfl) (AI (AA rfl) (AV _ _ _) CL) (CS (VJ hlo) (bl hle))) (by refine AB (Ly rfl rfl) ?_;decide)) ?_;refine AN (EA (fs:=if By od=0 then [.none,.none]else [.AS (qf (HG od wo).sum (By od)),.AS (qf (HG od wo).sum (By od))]) rfl (Jd (b:=By od==0) (BU (AA rfl) (AV _ _ _) Cv) (fun hb=>CH (BH (fs:=[.none,.none]) (AE (Bw _ _) (AE (Bw _ _) AK)) (Du (by decide))) (by refine AB (if_pos (by simpa using hb)) ?_;rfl))
  (fun hb=>CH (BH (fs:=[.AS (qf (HG od wo).sum (By od)),.AS (qf (HG od wo).sum (By od))]) (AE (AI (DR rfl (AA rfl)) (AA rfl) (CS (not_eq_of_beq_eq_false hb) (bl dW))) (AE (AI (DR rfl (AA rfl)) (AA rfl) (CS (not_eq_of_beq_eq_false hb) (bl dW))) AK)) (Du (List.getElem?_eq_none_iff.mp rfl))) (by refine AB (if_neg (by simpa using hb)) ?_;rfl))) (by refine AB List.length_append ?_;refine AB (Ly rfl rfl) ?_;refine AB (Ly rfl rfl) ?_;exact Bh rfl)) ?_
 refine AN (EA (fs:=if B3 od=0 then [.none,.none]else [.AS (qf (HH od wo).sum (B3 od)),.AS (qf (HH od wo).sum (B3 od))]) rfl (Jd (b:=B3 od==0) (BU (AA rfl) (AV _ _ _) Cv) (fun hb=>CH (BH (fs:=[.none,.none]) (AE (Bw _ _) (AE (Bw _ _) AK)) (Du (by decide))) (by refine AB (if_pos (by simpa using hb)) ?_;rfl))
  (fun hb=>CH (BH (fs:=[.AS (qf (HH od wo).sum (B3 od)),.AS (qf (HH od wo).sum (B3 od))]) (AE (AI (DR rfl (AA rfl)) (AA rfl) (CS (by simpa using hb) (bl YP))) (AE (AI (DR rfl (AA rfl)) (AA rfl) (CS (by simpa using hb) (bl YP))) AK)) (Du (by simp))) (by refine AB (if_neg (by simpa using hb)) ?_;rfl))) (by refine AB List.length_append ?_;refine AB List.length_append ?_;refine AB (Ly rfl rfl) ?_;refine AB (Ly rfl rfl) ?_;refine AB (Ly rfl rfl) ?_;simp)) ?_
 refine AN (Dz (xs:=tl++[.AS cv]) (F5 (Kt.ev (Bb Ld rfl (o:=Io) rfl rfl rfl (nm:=[]) rfl (AE (Ev.KS (AA rfl)) (AE (Ev.KS (AA rfl)) AK)) Ad bS)) (FD.ev (BH (fs:=[.AS cv]) (AE (Kt.ev (Bb RB rfl (o:=G3) rfl rfl rfl (nm:=[]) rfl (AE (Ev.KS (AA rfl)) (AE (Ev.KS (AA rfl)) AK)) Ad bT)) AK) (Du (by simp)))) (by simp;exact AJ VA (DY rfl))) (.inl rfl)) ?_;refine AN (EA (fs:=[f1,f2]) rfl (BH (fs:=[f1,f2]) (AE (NZ a1 (fun z=>AA rfl) rfl (fun z=>rfl) rfl (by decide) rfl rfl rfl (fun z z z z=>rfl)) (AE (Ha a2 (fun z=>Ev.KS (AA rfl)) (fun z=>AA rfl) rfl (fun z=>rfl) rfl (by decide) rfl rfl rfl (fun z z z z=>rfl)) AK)) (Du (by simp))) (by simp;exact AJ VA (DY rfl))) ?_;refine AN (EA (fs:=[f3,f4]) rfl (BH (fs:=[f3,f4]) (AE (NZ a3 (fun z=>AA rfl) rfl (fun z=>rfl) rfl (by decide) rfl rfl rfl (fun z z z z=>rfl)) (AE (Ha a4 (fun z=>Ev.KS (AA rfl)) (fun z=>AA rfl) rfl (fun z=>rfl) rfl (by decide) rfl rfl rfl (fun z z z z=>rfl)) AK)) (Du (by simp))) (by simp;exact AJ VA (DY rfl))) ?_;refine BW (An (Bn (Az (f:=.bool true) (Kt.ev (Bb Lf rfl (o:=KZ) rfl rfl rfl (nm:=[]) rfl (AE (AA rfl) (AE (AA rfl) AK)) Ad (Lh (n:=n+11) gV (by simpa using AJ VA (by decide))))))) rfl) ?_;exact GO (MY rfl) h
noncomputable def DS (wo:List Int) (v:Int):Int:=((wo.filter fun u=>u==v).length:Int)
noncomputable def Fb (wo:List Int):Int:=(wo.length:Int)*wo.length*wo.length-wo.length-(wo.map fun v=>DS wo v*DS wo v-1).sum
noncomputable def YQ (od wo:List Int):Int:=3*(od.length:Int)*By od*B3 od*Fb wo
noncomputable def IG (od wo:List Int):List Int:=(T5 1 184).filter fun r=>r*r==YQ od wo
noncomputable def A7 (od:List Int) (hd:Int):Int:=2*(hd.fmod 7-3)+od.length-1
noncomputable def Bg (t:Int) (od wo:List Int):Int:=t*((HH od wo).flatMap fun a=>(HG od wo).map fun b=>b2i (decide (a<b))-b2i (decide (b<a))).sum
noncomputable def UA (od wo:List Int) (hd:Int):List (Str×PV):=Y5 od wo hd++([("roots",.list (A5 (IG od wo))),("whole",.fv (.int (A7 od hd)))]:List (Str×PV))
section
variable {w:Wd} {names:BC} {oc:List Str} {n:Nat} {own own':Option Str} {pe pe':PE} {out:Out}
theorem Na {l:List (Str×PV)} (h:∀ p∈l,pe p.1=some p.2) (y:Nm w names oc n none (Ec l) body own' pe'):Nm w names oc n own pe body own' pe':=
 fun A env s₀ s Q E F k=>y A env s₀ s Q E (F.less fun x pv e=>by
  refine Or.elim (GN l _ x pv e) (fun e=>?_) (fun e=>?_)
  ·exact h _ e
  ·injection e) k
theorem YR {l:List (Str×PV)} (h:∀ p∈l,pe p.1=some p.2):Nm w names oc n own pe [] none (Ec l):=
 fun A env s₀ s Q E F k=>wpAny_execs_nil (k s (F.less fun x pv e=>by
  refine Or.elim (GN l _ x pv e) (fun e=>?_) (fun e=>?_)
  ·exact h _ e
  ·injection e))
end
theorem RT {h k:Type} (xs:List h) (ys:List k) (f:h→k→Int):(xs.flatMap fun a=>ys.map (f a)).length=xs.length*ys.length:=by
 induction xs with
 |nil=>simp
 |cons a l e=>simp [e,Nat.add_mul,Nat.add_comm]
theorem UB (p q:Bool):(b2i p-b2i q).natAbs≤1:=by cases p<;>cases q<;>exact Bh rfl
theorem FL {k:List Int} (K:B1 k wo) {t:Int} (g:t=1∨t = -1):(Bg t k wo).natAbs≤36:=by
 have b:=K.Ie;have y:(((HH k wo).flatMap fun a=>(HG k wo).map fun b=>b2i (decide (a<b))-b2i (decide (b<a))).sum).natAbs≤36*1:=by
  refine AJ (Cr _ 1 fun v e=>?_) (Nat.mul_le_mul_right _ ?_)
  ·refine AF (List.mem_flatMap.mp e) fun a z x=>?_;refine AF (List.mem_map.mp x) fun c z h=>?_;clear e x;obtain rfl:=h;exact UB _ _
  ·refine AB (RT ..) ?_;exact Nat.mul_le_mul b.NY b.RS
 exact AO (A:=1) (B:=36) (by rcases g with rfl | rfl<;>constructor) y
theorem RU {a:Int} {i:Int} (h:i∈T5 a m):a≤i∧i<a+m:=by
 refine Zt (List.mem_map.mp h) fun j k=>?_;exact mem_rangeKs h
noncomputable def J8 (l:List Stmt):List Stmt:=Yh (l.headD (.Pass default))
set_option maxHeartbeats 2000000 in
theorem YS {k:List Int} (K:B1 k wo)
  (h:∀ t:Int,(t=1∨t = -1)→∀ w':Wd,Nm w' (FU w) (J6 w) (n+12) none (Ec (UA k wo hd++([("turn",.fv (.int t))]:List (Str×PV)))) (J8 (J7 26)) none (Ec (UA k wo hd))) :
  Bo w (FU w) (J6 w) (n+12) none (Ec (Y5 k wo hd)) (J7 23) (.ret (.fv (.bool true))):=by
 have b:=K.Ie;have y:=K.hi;have x:=K.len;have I:=b.Wm;have c:∀ v,(wo.filter fun u=>u==v).length≤6:=fun v=>AJ (List.length_filter_le _ _) (le_of_eq_of_le x y);refine AN (AL (pv:=.fv (.int (Fb wo))) (Cw (AI (AI (AI (AI (AA rfl) (AA rfl) (BO (Cu (by exact Nv y (DY rfl))))) (AA rfl) (BO (bR (Nv y (DY rfl))))) (AA rfl) CL)
  (BG Jn rfl (nm:=[]) rfl rfl (AE (FD.ev (E1 (xs:=wo) (fun Z=>true) (fun v=>DS wo v*DS wo v-1) (Ev.KS (AA rfl)) (.inr ⟨DI rfl,rfl⟩) rfl (by rfl) rfl (by decide) rfl (fun Z Z=>rfl) (fun v O Z=>Cw (AI (AI (BG H4 rfl (nm:=[]) rfl rfl (AE (FD.ev (CH (E1 (xs:=wo) (fun u=>u==v) (fun u=>u) (Ev.KS (AA rfl)) (.inl rfl) rfl (by assumption) rfl (by decide) rfl (fun u N=>BU (AA rfl) (AA rfl) Cv) (fun u N Z=>AA rfl) (by exact AJ (AJ (Nat.le_of_eq x) y) (DY rfl))) (by refine AB (List.map_id' ..) ?_;rfl))) AK) Ad (L5 (by refine AB (BL ..) ?_;have:=c v;exact AJ (c v) (Nat.le_add_left 6 994))))
   (AV _ _ _) (XE (by refine AB (BL ..) ?_;have:=c v;exact Nv this (DY rfl)))) (AV _ _ _) CL) (by refine AB (BL ..) ?_;rfl)) (AJ (le_of_eq_of_le x y) (by decide)))) AK) Ad Jh) CL) ?_) (.inr ⟨DI rfl,rfl⟩)) ?_
 ·unfold Fb;refine AB K9 ?_;refine AB x ?_;rfl
 refine AN (XH (b:=PE.set ((Ec (Y5 k wo hd)).set "ties" (.fv (.int (Fb wo)))) "roots" (.list (A5 (IG k wo)))) (Mw (rows:=(A5 (T5 1 184)).map fun f=>[("root",.fv f)]) (p:=fun r=>match r with | [(_,.fv (.int i))]=>i*i==YQ k wo | _=>false) (g:=fun r=>match r with | [(_,.fv f)]=>f | _=>.none) (src_range (a:=1) (m:=184) rfl (AV _ _ _) (AV _ _ _) rfl (by rfl) (.inl rfl) rfl) (by rfl) rfl (by decide) rfl
  (fun r o q J=>?_) (fun r o=>?_) (fun r o L=>?_) (by decide) rfl rfl rfl) ?_) ?_
 ·refine AF (List.mem_map.mp o) fun f Z s=>?_;obtain rfl:=s;refine AB (List.mem_singleton.mp J) ?_;rfl
 ·refine AF (List.mem_map.mp o) fun f d C=>?_;obtain rfl:=C;refine AF (Ds d) fun i M D=>?_;obtain rfl:=D;have:=RU M;have H:(3*(k.length:Int)*By k).natAbs≤3*6*6:=AO (AO (by constructor) y) b.on;exact An (BU (AI (AA rfl) (AA rfl) (BO (Cu (Zl this.left this.right)))) (AI (AI (AI (AI (AV _ _ _) (AA rfl) (BO (Cu (Nat.lt_of_sub_eq_succ rfl)))) (AA rfl) (BO (Cu (bl (AO (A:=3) (B:=6) (by constructor) y))))) (AA rfl) (BO (Cu (bl H)))) (AA rfl) (BO (Cu (bl (AO H b.ot))))) Cv) rfl
 ·refine AF (List.mem_map.mp o) fun f d z=>?_;clear o L;obtain rfl:=z;exact AA rfl
 ·congr 2
  refine AB List.map_map ?_;refine AB List.filter_map ?_;refine Eq.trans List.map_map ?_;rfl
 refine AN (AL (pv:=.fv (.int (A7 k hd))) (AI (AI (AI (AV _ _ _) (AI (AI (AA rfl) (AV _ _ _) (Fc (by decide) (Nat.lt_of_sub_eq_succ rfl))) (AV _ _ _) CL) (BO (Cu (Nat.lt_of_sub_eq_succ rfl)))) (AA rfl) En) (AV _ _ _) CL) (.inl rfl)) ?_;refine GO (l:=UA k wo hd) (MY rfl) ?_;refine AN (MW (xs:=[.int 1,.int (-1)]) (pe':=Ec (UA k wo hd)) (AE (AV _ _ _) (AE (Jr (AV _ _ _)) AK)) (by decide) (.inr ⟨DI rfl,rfl⟩) (fun Z pe=>pe=Ec (UA k wo hd)) rfl (fun j f pe' F d=>?_) fun G h=>by refine AB h ?_;exact fun Z Z e=>e) (CA (B' _ _ _));refine AB F ?_;have E:∃ t:Int,f = .int t∧(t=1∨t = -1):=by
  rcases j with _ | _ | j
  ·simp at d;exact(AQ 1 d.symm (.inl rfl))
  ·simp at d;exact(AQ (-1) d.symm (.inr rfl))
  ·injection d
 obtain⟨t,rfl,E⟩:=E;exact(Dj none _ rfl (fun w'=>Na (MY rfl) (h t E w')))
noncomputable def GR (od wo:List Int) (t:Int) (f:FV):Prop:=
 if(By od*B3 od==0||O4 wo==L4 wo)=true then f = .none
 else ∃ x,f = .AS x∧b2i (Float64.cmpInt x 0==some .gt)-b2i (Float64.cmpInt x 0==some .lt)=b2i (decide (0<Bg t od wo))-b2i (decide (Bg t od wo<0))∧∀ r∈IG od wo,Float64.cmp x (qf (3*(od.length:Int)*Bg t od wo) r)=some .eq
noncomputable def WI (od wo:List Int) (hd t:Int):List (Str×PV):=UA od wo hd++([("net",.fv (.int (Bg t od wo)))]:List (Str×PV))
noncomputable def WJ:Stmt:=(J8 (J7 26)).getD 11 (.Pass default)
theorem WK {own:Option Str} {k:List Int} {t:Int} (K:B1 k wo) (E:t=1∨t = -1) (a:∀ p∈WI k wo hd t,pe p.1=some p.2) (F:pe "both" = some (.list fs)) (C:∀ f∈fs,GR k wo t f) :
  N1 w (FU w) (J6 w) (n+12) own pe WJ none (Ec (UA k wo hd)):=by
 have b:=K.Ie;have D:=K.lo;have d:=K.hi;have i:=K.len;have c:wo≠[]:=by rintro rfl;exact Nat.not_succ_le_zero 1 (i.symm▸D:2≤([]:List Int).length)
 refine Ln (xs:=fs) (AA F) (.inr ⟨DI rfl,rfl⟩) (fun Z pe=>∀ p∈WI k wo hd t,pe p.1=some p.2) a (fun j f pe' v s=>?_) fun z h y pv e=>?_
 ·have g:=C f (List.mem_of_getElem? s);refine(Dj none (Ec (WI k wo hd t)) (fun p a=>?_) (fun w'=>Na (l:=WI k wo hd t++([("tie",.fv f)]:List (Str×PV))) (fun p a=>?_) ?_))
  ·exact MY rfl p a
  ·refine Or.elim (List.mem_append.mp a) (fun a=>?_) (fun a=>?_)
   ·have:(p.1==("tie" : Str))=false:=List.map_inj_left.mp (show(WI k wo hd t).map (fun p=>p.1==("tie" : Str))=(WI k wo hd t).map fun Z=>false from rfl) p a;rewrite [PE.set];refine Eq.trans (if_neg (ne_of_beq_false this)) ?_;exact v p a
   ·refine AB (List.mem_singleton.mp a) ?_;rfl
  ·refine Bq (own':=none) (pe':=Ec (WI k wo hd t++([("tie",.fv f)]:List (Str×PV)))) ?_ (YR fun p a=>?_)
   ·refine Kk (b:=(By k*B3 k==0)||((O4 wo==L4 wo)||false)) (FC (CM (Az (f:=.bool (By k*B3 k==0)) (AA rfl)) fun Z=>CM (BU (BG (Bp (fun Z=>rfl) rfl (by decide):GV "min" (.builtin "min")) rfl (nm:=[]) rfl rfl (AE (Ev.KS (AA rfl)) AK) Ad (VW c)) (BG (Bp (fun Z=>rfl) rfl (by decide):GV "max" (.builtin "max")) rfl (nm:=[]) rfl rfl (AE (Ev.KS (AA rfl)) AK) Ad (VX c)) Cv) fun Z=>Fd)) (fun q=>?_) (fun q=>?_)
    ·unfold GR at g;rw [if_pos (by simpa using q)]at g;refine AB g ?_;exact L3 (Kk (b:=false) (An (HF (AA rfl)) rfl) (fun h=>by injection h) fun Z=>EJ)
    ·unfold GR at g;rw [if_neg (by simpa using q)]at g;obtain⟨x,rfl,u,o⟩:=g;refine L3 (Kk (b:=Js (.AS x)||((b2i (Float64.cmpInt x 0==some .gt)-b2i (Float64.cmpInt x 0==some .lt) != b2i (decide (0<Bg t k wo))-b2i (decide (Bg t k wo<0)))||false))
      (FC (CM (JA rfl rfl (AA rfl)) fun Z=>CM (BU (AI (C4 (AA rfl) (AV _ _ _) SG) (C4 (AA rfl) (AV _ _ _) SH) Jb) (AI (C4 (AA rfl) (AV _ _ _) Un) (C4 (AA rfl) (AV _ _ _) Hk) Jb) Hj) fun Z=>Fd)) (fun h=>?_) fun Z=>?_)
     ·rw [(by simpa using u:(b2i (Float64.cmpInt x 0==some .gt)-b2i (Float64.cmpInt x 0==some .lt) != b2i (decide (0<Bg t k wo))-b2i (decide (Bg t k wo<0)))=false)]at h;injection h
     ·refine L3 (Kk (b:=false) (WC (FD.ev (CH (E1 (xs:=IG k wo) (fun r=>Float64.cmp x (qf (3*(k.length:Int)*Bg t k wo) r) != some .eq) (fun r=>r) (AA rfl) (.inl rfl) rfl (by decide) rfl (by decide) rfl (fun r m=>?_) (fun r m Z=>AA rfl) ?_) ?_))) (fun h=>by injection h) fun Z=>EJ)
      ·have:=RU ((List.mem_filter.mp m).1);have G:(3*(k.length:Int)*Bg t k wo).natAbs≤3*6*36:=AO (AO (by decide) d) (FL K E);exact BU (AA rfl) (AI (AI (AI (AV _ _ _) (AA rfl) (BO (Cu (by decide)))) (AA rfl) (BO (Cu (bl (AO (A:=3) (B:=6) (by decide) d))))) (AA rfl) (CS (Int.ne_of_gt (Int.lt_of_lt_of_le (by decide) this.1)) (bl G))) SI
      ·refine AJ (List.length_filter_le _ _) (by decide)
      ·refine AB (List.map_id' ..) ?_;refine AB (List.filter_eq_nil_iff.mpr fun r m=>by refine AB (o r m) ?_;decide) ?_;rfl
   ·exact MY rfl p a
 ·refine Or.elim (GN _ _ y pv e) (fun e=>?_) (fun e=>?_)
  ·exact h (y,pv) (List.mem_append_left _ e)
  ·injection e
noncomputable def YT (od wo:List Int) (hd t:Int):List FV:=
 (if By od*B3 od=0 then [.none,.none]else [.AS (qf (Bg t od wo) (2*By od*B3 od)),.AS (qf (A7 od hd) 2)])++[.AS (qf ((od.length:Int)*Bg t od wo) (2*(od.length:Int)-2))]++
  [if By od=0 then .none else .AS (qf (By od*A7 od hd+Bg t od wo) (2*By od))]++[if B3 od=0 then .none else .AS (qf (B3 od*A7 od hd-Bg t od wo) (2*B3 od))]
structure Nb (w:Wd) (n:Nat) (od wo:List Int) (hd t:Int) (rk tl:List FV) (cv:UInt64) (f5 f6 f7 f8:FV):Prop where
 rank:Cp w (decide (t<0)) wo (.int (hd.fmod 7-3-1)) rk
 line:Dm w (n+12) (.ref 440) [.list (A5 (Av od)),.list rk] [] [] (.ret (.list tl))
 bU:Dm w (n+12) (.ref 343) [.list (A5 (Av od)),.list rk] [] [] (.ret (.fv (.AS cv)))
 a5:D0 w (n+10) (.ref 329) [.list rk,.list (A5 od)] [] [] f5
 a6:D0 w (n+10) (.ref 329) [.list rk,.list (A5 (B7 od))] [] [] f6
 ag:HE ((tl++[.AS cv])++[f5,f6]) (YT od wo hd t)
 WL:tl.length≤10
 a7:D0 w (n+10) (.ref 349) [.list (A5 (Av od)),.list rk] [] [] f7
 a8:D0 w (n+10) (.ref 349) [.BN (Av od),.BN (wo.map fun v=>t*v)] ["method"] [.str "ranked"] f8
 t7:GR od wo t f7
 t8:GR od wo t f8
noncomputable def gG (h:Int→Int→Int):FV→FV→FV
 |.int i,.int j=>.int (h i j)
 |_,_=>.none
theorem RV (xs ys:List Int) (h:Int→Int→Int):((A5 xs).flatMap fun f=>(A5 ys).map (gG h f))=A5 (xs.flatMap fun a=>ys.map (h a)):=by
 induction xs with
 |nil=>rfl
 |cons a l k=>
  have:A5 (a::l) = .int a::A5 l:=rfl;refine AB this ?_;refine Eq.trans List.flatMap_cons ?_;refine AB k ?_;refine AB List.flatMap_cons ?_;refine Eq.trans ?_ (T9 ..)
  congr 1
  refine Eq.trans List.map_map ?_;refine Eq.trans ?_ List.map_map.symm;rfl
theorem RW {i:Int} (h:(i==0)=false):2*i≠0:=Int.mul_ne_zero (by decide) (beq_eq_false_iff_ne.mp h)
noncomputable def YU:List Stmt:=J8 (J7 26)
set_option maxHeartbeats 2000000 in
theorem Nc {h:List Int} (hd:Int) (k:2≤h.length) (e:h.length≤6):(A7 h hd).natAbs≤11:=by
 unfold A7;have a:=Int.fmod_nonneg_of_pos hd (by decide:(0:Int)<7);have b:=Int.fmod_lt_of_pos hd (by decide:(0:Int)<7);rw [Int.add_sub_assoc];refine Yi (a:=6) (b:=5) ?_ (Nat.le_of_lt_succ (Nat.lt_of_lt_of_le (R6 (Nat.lt_of_succ_le (Nat.le_of_succ_le k))) e));rw [Int.natAbs_mul,←Int.toNat_of_nonneg a];exact Nat.mul_le_mul_left 2 ((by decide:∀ k:Nat,k<7→((k:Int)-3).natAbs≤3) _ ((Int.toNat_lt a).mpr b))
theorem YV {od:List Int} {t:Int} {rk tl:List FV} {cv:UInt64} {f5 f6 f7 f8:FV} (K:B1 od wo) (ht:t=1∨t = -1) (T:Nb w n od wo hd t rk tl cv f5 f6 f7 f8) :
  Nm w (FU w) (J6 w) (n+12) none (Ec (UA od wo hd++([("turn",.fv (.int t))]:List (Str×PV)))) YU none (Ec (UA od wo hd)):=by
 have b:=K.Ie;have hlo:=K.lo;have VB:=K.hi;have hlen:=K.len;have Wm:=b.Wm;have dY:=b.RS;have dX:=b.NY;have Y6:=FL K ht;have VA:=T.WL;have bV:(A7 od hd).natAbs≤20:=AJ (Nc hd hlo VB) (by decide);have dZ:t.natAbs≤1:=by rcases ht with rfl | rfl<;>constructor
 have hN:(od.length:Int).natAbs≤6:=VB;have hmul:(HH od wo).length*(HG od wo).length≤36:=Nat.mul_le_mul dX dY
 refine Bq (AL (pv:=.fv (.int (Bg t od wo))) (AI (AA rfl) (BG Jn rfl (nm:=[]) rfl rfl (AE (FD.ev (CH (Ox (xs:=A5 (HH od wo)) (ys:=A5 (HG od wo)) (G:=gG fun a b=>b2i (decide (a<b))-b2i (decide (b<a))) rfl rfl rfl rfl rfl rfl (by decide) (by rfl) rfl (by decide) rfl (fun f hf g hg=>?_) (by refine AB (BL ..) ?_;refine AB (BL ..) ?_;exact AJ (Nat.add_le_add hmul dY) (DY rfl))) (RV _ _ _))) AK) Ad Jh) (BO (Cu (bl dZ)))) (.inr ⟨DI rfl,rfl⟩)) ?_
 ·refine AF (Ds hf) fun i z bW=>?_;obtain rfl:=bW;refine AF (Ds hg) fun j z WH=>?_;clear hg;obtain rfl:=WH;exact AI (C4 (AA rfl) (AA rfl) Un) (C4 (AA rfl) (AA rfl) Hk) Jb
 refine Bq (AL (pv:=.list rk) (Kt.ev (Bb J0 rfl (o:=Ed) rfl rfl rfl (nm:=["reverse","start"]) rfl (AE (AA (pv:=.BN wo) rfl) AK) (DF (C4 (AA rfl) (AV _ _ _) Hk) (DF (AI (AI (AA rfl) (AV _ _ _) (Fc (by decide) (by decide))) (AV _ _ _) CL) Ad)) (Q8 (n:=n+3) (AJ hlo (Nat.le_of_eq (id (Eq.symm hlen)))) (AJ (Nat.le_of_eq hlen) VB) T.rank))) (.inr ⟨DI rfl,rfl⟩)) ?_
 refine Bq (Dz (xs:=(if By od*B3 od=0 then [.none,.none]else [.AS (qf (Bg t od wo) (2*By od*B3 od)),.AS (qf (A7 od hd) 2)])) (Jd (b:=By od*B3 od==0) (Az (f:=.bool (By od*B3 od==0)) (AA rfl)) (fun hb=>CH (BH (fs:=[.none,.none]) (AE (Bw _ _) (AE (Bw _ _) AK)) (Du (by decide))) (by refine AB (if_pos (Int.Internal.Linear.mul_eq_kk (By od) (B3 od) (By od) (B3 od) 0 rfl rfl hb)) ?_;rfl))
  (fun hb=>CH (BH (fs:=[.AS (qf (Bg t od wo) (2*By od*B3 od)),.AS (qf (A7 od hd) 2)]) (AE (AI (AA rfl) (AI (AI (AV _ _ _) (AA rfl) (BO (Cu (by decide)))) (AA rfl) (BO (Cu (bl (AO (by decide) b.on:(2*By od).natAbs≤2*6))))) (CS (by refine AB (Int.mul_assoc ..) ?_;exact Int.mul_ne_zero (by decide) (not_eq_of_beq_eq_false hb)) (bl Y6))) (AE (AI (AA rfl) (AV _ _ _) (CS (by decide) (bl bV))) AK)) (Du (List.getElem?_eq_none_iff.mp rfl))) (by refine Eq.trans ?_ (if_neg (not_eq_of_beq_eq_false hb)).symm;rfl))) (.inl rfl)) ?_
 have Ly:∀ {a b:List FV} {c:Prop} [Decidable c],a.length=2→b.length=2→(if c then a else b).length=2:=fun {a b c z} h1 h2=>by split<;>assumption
 refine Bq (D' (f:=.AS (qf ((od.length:Int)*Bg t od wo) (2*(od.length:Int)-2))) rfl (AI (AI (AA rfl) (AA rfl) (BO (Cu (bl hN)))) (AI (AI (AV _ _ _) (AA rfl) (BO (Cu (by decide)))) (AV _ _ _) CL) (CS (Int.ne_of_gt (Wv hlo)) (bl (AO hN Y6:((od.length:Int)*Bg t od wo).natAbs≤6*36)))) (by refine AB (Ly rfl rfl) ?_;decide)) ?_;refine Bq (D' (f:=if By od=0 then .none else .AS (qf (By od*A7 od hd+Bg t od wo) (2*By od))) rfl (Kh (b:=By od==0) (BU (AA rfl) (AV _ _ _) Cv) (fun hb=>Cw (Bw _ _) (by refine AB (if_pos (bi_ieq.mp hb)) ?_;rfl))
  (fun hb=>Cw (AI (AI (AI (AA rfl) (AA rfl) (BO (Cu (bl b.on)))) (AA rfl) En) (AI (AV _ _ _) (AA rfl) (BO (Cu (by decide)))) (CS (RW hb) (bl (GQ (AO b.on bV:(By od*A7 od hd).natAbs≤6*20) Y6)))) (by refine AB (if_neg (by simpa using hb)) ?_;rfl))) (by refine AB List.length_append ?_;refine AB (Ly rfl rfl) ?_;exact Bh rfl)) ?_
 refine Bq (D' (f:=if B3 od=0 then .none else .AS (qf (B3 od*A7 od hd-Bg t od wo) (2*B3 od))) rfl (Kh (b:=B3 od==0) (BU (AA rfl) (AV _ _ _) Cv) (fun hb=>Cw (Bw _ _) (by refine AB (if_pos (bi_ieq.mp hb)) ?_;rfl))
  (fun hb=>Cw (AI (AI (AI (AA rfl) (AA rfl) (BO (Cu (bl b.ot)))) (AA rfl) CL) (AI (AV _ _ _) (AA rfl) (BO (Cu (by decide)))) (CS (RW hb) (bl (FK (AO b.ot bV:(B3 od*A7 od hd).natAbs≤6*20) Y6)))) (by refine AB (if_neg (by simpa using hb)) ?_;rfl))) (by refine AB List.length_append ?_;refine AB List.length_append ?_;refine AB (Ly rfl rfl) ?_;exact Bh rfl)) ?_
 refine Bq (Dz (xs:=tl++[.AS cv]) (F5 (Kt.ev (Bb Ld rfl (o:=Io) rfl rfl rfl (nm:=[]) rfl (AE (Ev.KS (AA rfl)) (AE (AA rfl) AK)) Ad T.line)) (FD.ev (BH (fs:=[.AS cv]) (AE (Kt.ev (Bb RB rfl (o:=G3) rfl rfl rfl (nm:=[]) rfl (AE (Ev.KS (AA rfl)) (AE (AA rfl) AK)) Ad T.bU)) AK) (Du (List.getElem?_eq_none_iff.mp rfl)))) (by simp;exact AJ VA (Nat.le_add_left 10 989))) (.inl rfl)) ?_;refine Bq (EA (fs:=[f5,f6]) rfl (BH (fs:=[f5,f6]) (AE (Ha T.a5 (fun z=>AA rfl) (fun z=>AA rfl) rfl (fun z=>rfl) rfl (by decide) rfl rfl rfl (fun z z z z=>rfl)) (AE (Ha T.a6 (fun z=>AA rfl) (fun z=>AA rfl) rfl (fun z=>rfl) rfl (by decide) rfl rfl rfl (fun z z z z=>rfl)) AK)) (Du (List.getElem?_eq_none_iff.mp rfl))) (by simp;exact AJ VA (Nat.le_add_left 10 987))) ?_;refine Bq (Kk (b:=false) (An (Bn (Az (f:=.bool true) (Kt.ev (Bb Lf rfl (o:=KZ) rfl rfl rfl (nm:=[]) rfl (AE (AA rfl) (AE (AA rfl) AK)) Ad (Lh (n:=n+11) T.ag (by simp;exact AJ VA (DY rfl))))))) rfl) (fun h=>by injection h) fun z=>EJ) ?_
 refine AY (T.a7) fun o7 c7 b7 d7=>?_;refine AY (T.a8) fun o8 c8 b8 d8=>?_;refine Bq (Dz (xs:=[f7]) (BH (fs:=[f7]) (AE (HY (n:=n+10) (c:=449) (P:=447) (q:="law.<locals>.<lambda>") rfl Jo (by kernel_rfl) (fun z=>rfl) rfl (by decide) rfl rfl rfl (fun z z z z=>rfl)
  (Aj o7 (fun Yn=>Bb NP rfl (o:=Ef) rfl rfl rfl (nm:=[]) rfl (AE (Ev.KS (AA rfl)) (AE (AA rfl) AK)) Ad c7) b7 d7)) AK) (Du (List.getElem?_eq_none_iff.mp rfl))) (.inl rfl)) ?_
 refine Bq (D' (f:=f8) rfl (HY (n:=n+10) (c:=449) (P:=447) (q:="law.<locals>.<lambda>") rfl Jo (by kernel_rfl) (fun z=>rfl) rfl (by decide) rfl rfl rfl (fun z z z z=>rfl)
  (Aj o8 (fun Yn=>Bb NP rfl (o:=Ef) rfl rfl rfl (nm:=["method"]) rfl (AE (AA rfl) (AE (IF (fun v=>t*v) (Ev.KS (AA rfl)) rfl rfl (by decide) rfl (by decide) rfl (fun i hi=>Ju trivial (AA rfl) (AA rfl) (M9 (Cu (bl dZ)))) (by exact AJ (AJ (Nat.le_of_eq hlen) VB) (DY rfl))) AK)) (DF (VR _ _ _) Ad) c8) b8 d8)) (by exact List.getElem?_eq_none_iff.mp rfl)) ?_
 refine Bq (WK K ht (fs:=[f7,f8]) (fun p hp=>?_) rfl (fun f hf=>?_)) EJ
 ·exact MY rfl p hp
 ·simp only [List.mem_cons,List.not_mem_nil,or_false]at hf;refine Or.elim hf (fun V8=>?_) (fun V3=>?_)
  ·refine AB V8 ?_;exact T.t7
  ·refine AB V3 ?_;exact T.t8
structure RX (w:Wd) (n:Nat) (od wo:List Int) (tl:List FV) (cv:UInt64) (f1 f2 f3 f4:FV):Prop where
 line:Dm w (n+12) (.ref 440) [.list (A5 (Av od)),.list (A5 wo)] [] [] (.ret (.list tl))
 bU:Dm w (n+12) (.ref 343) [.list (A5 (Av od)),.list (A5 wo)] [] [] (.ret (.fv (.AS cv)))
 a1:D0 w (n+10) (.ref 329) [.list (A5 (HG od wo))] [] [] f1
 a2:D0 w (n+10) (.ref 329) [.list (A5 wo),.list (A5 od)] [] [] f2
 a3:D0 w (n+10) (.ref 329) [.list (A5 (HH od wo))] [] [] f3
 a4:D0 w (n+10) (.ref 329) [.list (A5 wo),.list (A5 (B7 od))] [] [] f4
 ag:HE (((tl++[.AS cv])++[f1,f2])++[f3,f4]) (YN od wo)
 WL:tl.length≤10
theorem WM {ns:List Int} (a:ns.length≤63) (K:B1 (Cm (Aa ns)) (Cq (Aa ns) (BJ ns)))
  (H:∃ y e s j m i,RX w n (Cm (Aa ns)) (Cq (Aa ns) (BJ ns)) y e s j m i)
  (T:∀ t:Int,(t=1∨t = -1)→∀ w':Wd,∃ x y e q b r c,Nb w' n (Cm (Aa ns)) (Cq (Aa ns) (BJ ns)) (BJ ns) t x y e q b r c) :
  Dm w (n+13) (.ref 450) [.list (A5 ns)] [] [] (.ret (.fv (.bool true))):=by
 obtain⟨y,e,s,j,m,i,H⟩:=H;refine Jk (o:=Ip) (fd:=fdOf Ip) (body:=Ag (BM 28)) (bs:=[("script",.list (A5 ns))]) rfl rfl rfl rfl (fun vs ks h f x=>?_) (fun h G=>codeRec_of G.kin (by kernel_rfl)) (fun p g=>?_) ?_ rfl rfl rfl rfl rfl rfl
 ·refine AF (BP f) fun v k u=>?_;clear f;obtain rfl:=k;obtain rfl:=A6 x;exact⟨[("script",v)],fun S=>rfl,rfl,u,trivial⟩
 ·refine AB (List.mem_singleton.mp g) ?_;exact .inl rfl
 ·refine YM a (GO (l:=Y4 (Cm (Aa ns)) (Cq (Aa ns) (BJ ns)) (BJ ns)) (fun p g=>?_) (YO K H.line H.bU H.a1 H.a2 H.a3 H.a4 H.ag H.WL (YS K fun t d w'=>?_)))
  ·simp only [Y4,(Eq.symm (len_of_map_eq rfl):(Cm (Aa ns)).length=(Aa ns).length),List.mem_cons,List.not_mem_nil,or_false]at g;rcases g with rfl | rfl | rfl | rfl | rfl<;>rfl
  ·obtain⟨x,z,A,q,b,r,c,B⟩:=T t d w';exact YV K d B
noncomputable def Nd (ns:List Int):Prop:=B1 (Cm (Aa ns)) (Cq (Aa ns) (BJ ns))∧(∀ (w:Wd) (n:Nat),∃ tl cv f1 f2 f3 f4,RX w n (Cm (Aa ns)) (Cq (Aa ns) (BJ ns)) tl cv f1 f2 f3 f4)∧
 ∀ t:Int,(t=1∨t = -1)→∀ (w:Wd) (n:Nat),∃ rk tl cv f5 f6 f7 f8,Nb w n (Cm (Aa ns)) (Cq (Aa ns) (BJ ns)) (BJ ns) t rk tl cv f5 f6 f7 f8
structure Gr (w:World) (mg mb:Str→Option Value) (h:Heap):Prop where
 kin:(K0 w.params).In h
 g:h.Ns mainGlobals mg
 b:h.Ns builtinsNs mb
 builtins:∀ x:Str,x≠"__name__"→mb x=bootBuiltins x
 nolimit:h.NoLimit
 Fx:∃ mc,h.Ns cStatics mc∧mc "thirdparty.any" = none
 told:∃ mc,h.Ns cStatics mc∧mc sharingNotToldKey=none
 bmain:∃ bm ob,mg "__builtins__" = some (.ref bm)∧bm≠builtinsNs∧h.get? bm=some ob∧ob.cls = .type "module"∧ob.dict=some builtinsNs∧ob.data = .plain
 tabs:∀ P∈Cd,h.get? P=some (tabObj #[])
theorem UC:TriplesOk (#[]:Array Value).toList:=by trivial
theorem Gr.gh {w:World} {y f:Str→Option Value} (S:Gr w y f h):GH ⟨w,h,[],[]⟩ h where
 Ke:=S.kin
 kin:=S.kin
 g:=⟨y,S.g⟩
 b:=(AQ f S.b S.builtins)
 nolimit:=S.nolimit
 Fx:=S.Fx
 told:=S.told
 bmain:=DT (S.bmain) fun l m e n i c d p=>(Ek y l m S.g e n i c d p)
 tabs:=fun p x=>⟨#[],S.tabs p.1 (Cn▸List.mem_map_of_mem x),UC,fun pos q j=>by
  have k:codeAmong pos []=some q:=j;unfold codeAmong at k;injection k⟩
 sub:=fun a o e=>⟨o,e⟩
 led:=fun p x=>by cases x
 Bm:=fun d hd=>by cases hd
theorem Gr.gW {w:World} {k e:Str→Option Value} (S:Gr w k e h):k "law" = some (.ref 450):=mg_of S.kin S.g (show nsIn (K0 w.params) mainGlobals "law" = some (some (.ref 450))from rfl)
noncomputable def AllIn:Frag→Frag→Prop
 |[],_=>True
 |p::K,L=>L.lookup p.1=some p.2∧AllIn K L
theorem AllIn.sub {K L:Frag} : AllIn K L→∀ a o,K.lookup a=some o→L.lookup a=some o:=by
 induction K with
 |nil=>exact fun z z z h=>nomatch h
 |cons p K k=>
  intro e a o h
  by_cases q:a=p.1
  ·rw [q]at h ⊢;exact e.1.trans (XI.symm.trans h)
  ·exact k e.2 a o ((Wg q).symm.trans h)
theorem YW {t:Str} {s:String} (k:(t.cps.toList.all fun n=>decide (n<55296))=true) (h:String.ofList (t.cps.toList.map Char.ofNat)=s):t=Str.ofString s:=by
 subst h;refine Eq.trans ?_ (Str.ofString_eq_toList ..).symm;refine AB String.toList_ofList ?_;refine AB List.map_map ?_;have:t.cps.toList.map (Char.toNat∘Char.ofNat)=t.cps.toList:=by
  refine(List.map_congr_left fun n e=>?_).trans (List.map_id _);have:=List.all_eq_true.mp k n e;simp [Char.ofNat,(.inl (by simpa using this):n.isValidChar),Char.toNat,Char.ofNatAux]
 exact StrLaws.mk_of_toList (id (Eq.symm this))
noncomputable def Ih (s:Stmt):Str:=(PySem.docOf (Ag s)).getD default
noncomputable def docOf (o:Option Obj):Str:=match o with
 |some ⟨_,_,.func fd,_⟩=>(match fd.doc with
  |.str s _=>s
  |_=>default)
 |_=>default
noncomputable def FN (o:Obj) (d:Str):Obj:=match o with
 |⟨c,dd,.func fd,sl⟩=>⟨c,dd,.func { fd with doc:=(match fd.doc with | .str _ t=>.str d t | v=>v),body:=(match fd.body with | .stmts (x::r)=>.stmts (.Expr (.Constant (.str d) 0 x.pos) x.pos::r) | b=>b) },sl⟩
 |o=>o
noncomputable def YX:{ s:String // Ih (BM 17)=Str.ofString s }:=⟨_,rfl⟩
noncomputable def YY:{ s:String // Ih (BM 20)=Str.ofString s }:=⟨_,rfl⟩
noncomputable def YZ:{ s:String // Ih (BM 21)=Str.ofString s }:=⟨_,rfl⟩
noncomputable def Ya:{ s:String // Ih (BM 23)=Str.ofString s }:=⟨_,rfl⟩
theorem bX (P:Params):FN Ed (Ih (BM 17))=Ed:=by kernel_rfl
theorem bY (P:Params):FN G3 (Ih (BM 20))=G3:=by kernel_rfl
theorem bZ (P:Params):FN Ef (Ih (BM 21))=Ef:=by kernel_rfl
theorem ba (P:Params):FN Im (Ih (BM 23))=Im:=by kernel_rfl
theorem GS {L:Frag} {o:Obj} {k:Stmt} (x:FN o (Ih k)=o) (d:{ s:String // Ih k=Str.ofString s }) (e:((docOf (L.lookup a)).cps.toList.all fun n=>decide (n<55296))=true)
  (y:String.ofList ((docOf (L.lookup a)).cps.toList.map Char.ofNat)=d.1) (h:L.lookup a=some (FN o (docOf (L.lookup a)))):L.lookup a=some o:=by
 refine Eq.trans h ?_;refine AB ((YW e y).trans d.2.symm) ?_;refine AB x ?_;rfl
theorem UD {w:World} (X:(K0 w.params).In h):∀ P∈Cd,isCodeTable h P:=fun P k=>by
 simp only [Cd,List.mem_cons,List.not_mem_nil,or_false]at k;rcases k with rfl | rfl | rfl | rfl
 ·exact(CY 449 _ _ (X 449 Uj rfl) rfl rfl rfl)
 ·exact(CY 439 _ _ (X 439 Ui rfl) rfl rfl rfl)
 ·exact(CY 342 _ _ (X 342 PF rfl) rfl rfl rfl)
 ·exact(CY 425 _ _ (X 425 Ug rfl) rfl rfl rfl)
theorem UE {w:World} {i f:Str→Option Value} {vs:List Value} {ns:List Int} (S:Gr w i f s.heap) (c:0<s.toks) (m:s.gens = #[]) (hl:s.heap.IsList a vs.toArray) (l:IntsAre vs ns) (j:ns.length≤63) (P:Nd ns)
  (k:∀ s',OldK s.heap s'.heap→s'.os=s.os→AllBare s'.gens→Q (.bool true) s'):wpAny (model PR w) callerA (call (.ref 450) [.ref a]) Q E s:=by
 refine CK (P) fun K H T=>?_;refine WM (w:=⟨w,s.heap,[],[]⟩) (n:=0) j K (H _ _) (fun t c w'=>T t c w' _) callerA s Q E [.ref a] [] S.gh ⟨rfl,by exact Bh rfl,by exact Bh rfl,⟨[],rfl,trivial⟩,c⟩ ⟨(Bl a vs rfl hl (SN l)),trivial⟩ trivial fun v s' x r=>?_;refine AB r ?_;refine k s' ⟨fun b o e=>?_,fun b o e=>x.there S.gh e⟩ x.os (x.gens (.of_eq m))
 by_cases y:b∈Cd
 ·have g:=S.tabs b y;replace g:=e▸g;refine Ap (x.grow b y #[] (S.tabs b y)) fun h d=>?_;refine AB (Ai g) ?_;exact .inr (.inl (SA (UD S.kin b y) rfl (#[]) h rfl d))
 ·exact .inl (x.keep b o y (fun q=>by injection ((show s.heap.get? b=none from q).symm.trans e)) e)
theorem UG (args:List WData):PySem.Challenge.rw_ij0066_01.row.claim.post args (WData.bool true) args=true:=by kernel_rfl
end
section
open PySem PySem.W PySem.Calls PyProof.Rows PySem.Spec PySem.Builtin.Math
set_option exponentiation.threshold 3000
section
open Float64
theorem Yb (k:Nat) (y:k<2^53):∃ t,t<infMag∧V t=k*2^1070:=by
 by_cases e:k=0
 ·subst e;exact(AQ 0 (Nat.zero_lt_succ 9218868437227405311) (by refine Eq.trans V_zero ?_;refine Eq.trans ?_ (Nat.zero_mul ..).symm;rfl))
 ·have b:=Nat.lt_log2_self (n:=k);have hl:k.log2≤52:=by
   refine Or.elim (Nat.lt_or_ge k.log2 53) (fun h=>?_) (fun h=>?_)
   ·exact mg_log y
   ·exact mg_log y
  have a:2^52=2^k.log2*2^(52-k.log2):=by refine Ar (Nat.pow_add ..) ?_;congr 1;exact Eq.symm (Nat.add_sub_of_le hl)
  have g:2^53=2^(k.log2+1)*2^(52-k.log2):=by refine Ar (Nat.pow_add ..) ?_;congr 1;exact((Nat.add_right_comm _ 1 _).trans (congrArg Nat.succ (Nat.add_sub_of_le hl))).symm
  have q1:2^52≤k*2^(52-k.log2):=by refine AB a ?_;exact Nat.mul_le_mul_right _ (Nat.log2_self_le e)
  have x:k*2^(52-k.log2)<2^53:=by refine AB g ?_;exact Nat.mul_lt_mul_of_pos_right b (Nat.two_pow_pos _)
  refine(AQ ((1070-(52-k.log2))*2^52+k*2^(52-k.log2)) ?_ ?_)
  ·generalize k*2^(52-k.log2)=q at *;exact Nat.lt_of_lt_of_le (Nat.add_lt_add_of_le_of_lt (Nat.mul_le_mul_right _ (Nat.sub_le 1070 _)) x) (Bh rfl)
  ·refine Eq.trans (V_at (Nat.le_of_lt x) (.inl q1)) ?_;refine Eq.trans (Nat.mul_assoc ..) ?_;refine Ar (Nat.pow_add ..) ?_
   congr 2;exact Nat.add_sub_of_le (AJ (Nat.sub_le 52 _) (by decide))
theorem Yc {a b:Nat} (h:Float64.dist a b≤Float64.dist a a):b=a:=by
 exact ZI h
theorem RY {t x:Nat} (h:V t=V x):t=x:=by
 refine Or.elim (Nat.lt_trichotomy t x) (fun e=>?_) (fun k=>Or.elim k (fun e=>?_) (fun e=>?_))
 ·have:=V_lt e;exact absurd h (Nat.ne_of_lt this)
 ·exact e
 ·have:=V_lt e;exact absurd h (Nat.ne_of_gt this)
theorem Ls {r:UInt64} {neg:Bool} {D a k:Nat} (i:0<D) (h:Right r neg W D) (l:k<2^53) (b:V a=k*2^1070) (d:W=D*(k*2^1070)):r=pack neg a:=by
 refine Cy (h) fun t e y x m=>?_;obtain rfl:=e;have g:t<infMag:=by
  refine Or.elim (Nat.lt_or_ge t infMag) (fun h=>?_) (fun h=>?_)
  ·exact h
  ·have f:=x.mp (Nat.le_antisymm y h);rw [d,Nat.mul_left_comm 2 D]at f;have j:2*(k*2^1070)<2^54*2^1070:=by refine Ar (Nat.mul_assoc ..) ?_;exact Nat.mul_lt_mul_of_pos_right (by exact Nat.lt_of_le_of_lt (Nat.mul_le_mul_left 2 (R7 l)) (DY rfl)) (Nat.two_pow_pos _)
   exact absurd (Nat.lt_of_lt_of_le (Nat.lt_of_lt_of_le j (by decide)) (Nat.le_of_mul_le_mul_left f i)) (Nat.lt_irrefl _)
 have c:=(m g a).1;rw [d,b]at c;have n:D*V t=D*(k*2^1070):=by
  exact Yc c
 exact congrArg _ (RY ((Nat.eq_of_mul_eq_mul_left i n).trans b.symm))
theorem RZ {A a b:Nat} (y:a<b) (k:b<c) (e:dist A a≤dist A b) (x:dist A c≤dist A b):False:=by
 refine Or.elim (Nat.le_total A b) (fun h=>?_) (fun h=>?_)
 ·exact ZJ h k x
 ·exact ZK y h e
theorem Ra {D x k:Nat} (C:Nat) (a:0<D) (g:0<k) (e:W*k=x*D):D*C≤2*W↔k*C≤2*x:=by
 constructor
 ·intro h;have y:=Nat.mul_le_mul_left k h;refine Nat.le_of_mul_le_mul_left (c:=D) ?_ a;rw [Nat.mul_left_comm k D C,Nat.mul_left_comm k 2 W,Nat.mul_comm k W,e]at y;refine AB (Nat.mul_left_comm D 2 x) ?_;refine AB (Nat.mul_comm D x) ?_;rwa [Nat.mul_left_comm D k C,Nat.mul_left_comm k D C]
 ·intro h;have y:=Nat.mul_le_mul_left D h;refine Nat.le_of_mul_le_mul_left (c:=k) ?_ g;rw [Nat.mul_left_comm D 2 x,Nat.mul_comm D x,←e]at y;refine AB (Nat.mul_left_comm k 2 W) ?_;refine AB (Nat.mul_comm k W) ?_;rwa [Nat.mul_left_comm k D C]
theorem Fp {r F:UInt64} {neg:Bool} {D v k:Nat} (B:0<D) (f:0<k) (h:Right r neg W D) (h':Right F neg v k) (e:W*k=v*D):r=F:=by
 refine Cy (h) fun t s l i G=>?_;obtain rfl:=s;refine Cy (h') fun y n p c j=>?_;clear h';obtain rfl:=n;have E:=Ra ((2^54-1)*2^2045) B f e
 by_cases m:t=infMag
 ·have:=c.mpr (E.mp (i.mp m));refine AB m ?_;refine AB this ?_;rfl
 ·have C:∀ u,dist (W*k) (D*k*V t)≤dist (W*k) (D*k*V u):=fun u=>by
   have:=(G (Nat.lt_of_le_of_ne l m) u).1;have:=Nat.mul_le_mul_left k this;rw [←dist_mul,←dist_mul]at this;rwa [Nat.mul_comm W k,Nat.mul_comm D k,Nat.mul_assoc,Nat.mul_assoc]
  have w:∀ u,dist (W*k) (D*k*V y)≤dist (W*k) (D*k*V u):=fun u=>by
   have:=(j (Nat.lt_of_le_of_ne p (fun q=>m (i.mpr (E.mpr (c.mp q))))) u).1;have:=Nat.mul_le_mul_left D this;rw [←dist_mul,←dist_mul]at this;rwa [e,Nat.mul_comm v D,Nat.mul_assoc,Nat.mul_assoc]
  have g:∀ {a b:Nat},a<b→D*k*V a<D*k*V b:=fun h=>Nat.mul_lt_mul_of_pos_left (V_lt h) (Nat.mul_pos B f);have x:dist (W*k) (D*k*V t)=dist (W*k) (D*k*V y):=Nat.le_antisymm (C y) (w t);have p1:t≠y→t%2=0:=fun d=>by
   refine(G (ZL l m) y).2 (fun q=>d (RY q).symm) ?_;refine Nat.eq_of_mul_eq_mul_left f ?_;refine Eq.trans (dist_mul ..).symm ?_;refine Eq.trans ?_ (dist_mul ..);rwa [Nat.mul_comm W k,Nat.mul_comm D k,Nat.mul_assoc,Nat.mul_assoc]at x
  have p2:t≠y→y%2=0:=fun d=>by
   refine(j (ZL p fun q=>m (i.mpr (E.mpr (c.mp q)))) t).2 (fun q=>d (RY q)) ?_;refine Nat.eq_of_mul_eq_mul_left B ?_;refine Eq.trans (dist_mul ..).symm ?_;refine Eq.trans ?_ (dist_mul ..);replace x:=e▸x;replace x:=(Nat.mul_comm v D)▸x;replace x:=(Nat.mul_assoc ..)▸x;replace x:=(Nat.mul_assoc ..)▸x;exact x.symm
  refine Or.elim (Nat.lt_trichotomy t y) (fun h=>?_) (fun o=>Or.elim o (fun h=>?_) (fun h=>?_))
  ·have z:=p1 (Nat.ne_of_lt h);have A:=p2 (Nat.ne_of_lt h);exact(RZ (g (show t<t+1 by exact Nat.lt_add_one t)) (g (show t+1<y by exact Wt h z A)) (C _) (w _)).elim
  ·exact congrArg _ h
  ·have z:=p1 (Nat.ne_of_gt (by assumption));have A:=p2 (Nat.ne_of_gt (by assumption));exact(RZ (g (show y<y+1 by exact Nat.le_of_eq rfl)) (g (show y+1<t by exact Wt h A z)) (w _) (C _)).elim
noncomputable def Xf (x:UInt64) (k:Int):Prop:=(∃ a m e,decode x = .fin a m e)∧val x=k*2^1070
noncomputable def Sm (k:Int):Prop:=k.natAbs<2^53
theorem Cs {r:UInt64} {neg:Bool} {D k:Nat} (b:0<D) (h:Right r neg W D) (y:k<2^53) (a:W=D*(k*2^1070)):Xf r (sgn neg k):=by
 refine AF (Yb k y) fun t g x=>?_;refine AB (Ls b h y x a) ?_;refine CD (decode_pack neg g) fun m e hd z=>?_;refine⟨(Mk neg m e hd),?_⟩
 refine Eq.trans (val_pack neg g) ?_;refine AB x ?_;refine Eq.trans (sgn_mul ..) ?_;simp
theorem EU (b:Bool):Xf (zero b) 0:=by
 refine CD (decode_pack b (t:=0) (Nat.zero_lt_succ 9218868437227405311)) fun m e hd z=>?_;exact⟨(Mk b m e hd),by refine Eq.trans (val_pack b (by decide)) ?_;refine AB V_zero ?_;cases b<;>rfl⟩
theorem FO (k:Int):sgn (decide (k<0)) k.natAbs=k:=by
 unfold sgn
 by_cases h:k<0
 ·simp [h];exact ZW h
 ·simp [h];exact ZX h
theorem E5 {i:Int} (h:i.natAbs<2^49):Xf (ofInt i) (16*i):=by
 have:=Cs (k:=16*i.natAbs) (by decide) (ofInt_right i) (by exact Nat.lt_of_le_of_lt (Nat.mul_le_mul_left 16 (R7 h)) (DY rfl)) (by
  refine Eq.trans ?_ (Nat.one_mul ..).symm;refine AB (Nat.mul_comm 16 ..) ?_;refine Eq.trans ?_ (Nat.mul_assoc ..).symm;rfl)
 rwa [Nat.mul_comm,sgn_mul,FO,Int.mul_comm]at this
end
section
open Float64
theorem VC (c:Nat):(0:Int)<2^c:=Int.pow_pos (by constructor)
theorem Dv (k:Int) (c:Nat):(k*2^c).natAbs=k.natAbs*2^c:=by refine Eq.trans (Int.natAbs_mul ..) ?_;refine AB (Int.natAbs_pow ..) ?_;rfl
theorem EE (k:Int) (c:Nat):decide (k*2^c<0)=decide (k<0):=by
 have h:=VC c;generalize (2:Int)^c=P at *;apply decide_eq_decide.mpr;constructor
 ·intro e;refine Or.elim (Int.lt_or_le k 0) (fun x=>?_) (fun x=>?_)
  ·exact x
  ·exact Int.neg_of_mul_neg_left e h
 ·intro e;exact Int.mul_neg_of_neg_of_pos e h
theorem Cf (h:k*2^c=0):k=0:=by
 refine Or.elim (Int.mul_eq_zero.mp h) (fun h=>?_) (fun h=>?_)
 ·exact h
 ·exact absurd h (Int.ne_of_gt (VC c))
theorem sign_of {x:UInt64} {a:Bool} {e:Int} (h:decode x = .fin a m e) (k:val x≠0):a=decide (val x<0):=by
 rw [val_eq h]at k ⊢;generalize m*2^(e+1074).toNat=n at *;unfold sgn at *;cases a<;>simp at *<;>exact Nat.zero_lt_of_ne_zero k
theorem EV {x:UInt64} {j:Int} (p:Xf x j) (n:Xf y k) (h:Sm (j+k)):Xf (add x y) (j+k):=by
 refine Bt (p) fun g s=>?_;refine Cg (g) fun a m e r=>?_;refine Bt (n) fun c l=>?_;refine Cg (c) fun b m' t o=>?_;refine Bt (add_right r o) fun f i=>?_;rw [s,l,←Int.add_mul]at f i
 by_cases d:j+k=0
 ·refine AB d ?_;refine AB (f (by refine AB d ?_;refine Eq.trans (Int.zero_mul ..) ?_;rfl)) ?_;exact EU _
 ·have:=Cs (k:=(j+k).natAbs) Nat.one_pos (i fun q=>d (Cf q)) h (by refine Eq.trans (Dv ..) ?_;refine Eq.trans ?_ (Nat.one_mul ..).symm;rfl);rwa [EE,FO]at this
theorem Rb {x:UInt64} (b:Xf x k):Xf (neg x) (-k):=by
 refine Bt (b) fun h g=>?_;refine Cg (h) fun a m e y=>?_;exact⟨(Mk _ _ _ (neg_decode y)),by refine Eq.trans (neg_val y) ?_;refine AB g ?_;refine Eq.trans ?_ (Int.neg_mul ..).symm;rfl⟩
theorem EW {x:UInt64} {j:Int} (g:Xf x j) (e:Xf y k) (h:Sm (j-k)):Xf (sub x y) (j-k):=by
 rw [Int.sub_eq_add_neg]at h ⊢;unfold Float64.sub;exact EV g (Rb e) h
theorem EF (b:Bool):sgn b 0=0:=by cases b<;>rfl
theorem IH {x:UInt64} {a:Bool} {m':Nat} {e w j l c:Int} (u:decode x = .fin a m e) (v:decode y = .fin b m' w) (p:val x=j*2^1070) (o:val y=k*2^1070) (i:0<c) (h:j*k=c*l):sgn (a != b) l.natAbs=l:=by
 by_cases hl:l=0
 ·refine AB hl ?_;exact EF _
 ·have n:j*k≠0:=by refine AB h ?_;exact Int.mul_ne_zero (Ne.symm (Int.ne_of_lt i)) hl
  have z:j≠0:=fun q=>n (Int.Internal.Linear.mul_eq_zero_left j k q);have r:k≠0:=fun q=>n (Int.Internal.Linear.mul_eq_zero_right j k q);have t:=sign_of u (by refine AB p ?_;exact fun q=>z (Cf q));have s:=sign_of v (by refine AB o ?_;exact fun q=>r (Cf q));rw [p,EE]at t;rw [o,EE]at s;have:(a != b)=decide (l<0):=by
   subst t s;rcases Int.lt_or_le j 0 with f | f<;>rcases Int.lt_or_le k 0 with d | d
   ·have g:=Int.mul_pos_of_neg_of_neg f d;rw [h]at g;have:0<l:=Int.pos_of_mul_pos_right g i;simp [f,d];exact Int.le_of_lt this
   ·have g:j*k<0:=Int.mul_neg_of_neg_of_pos f (Std.lt_of_le_of_ne d (id (Ne.symm r)));rw [h]at g;have:l<0:=by
     refine Or.elim (Int.lt_or_le l 0) (fun q=>?_) (fun q=>?_)
     ·exact q
     ·have:=Int.mul_nonneg (Int.le_of_lt i) q;exact Int.neg_of_mul_neg_right g i
    simp [f,Int.not_lt.mpr d,this]
   ·have g:j*k<0:=Int.mul_neg_of_pos_of_neg (Int.lt_iff_le_and_ne.mpr ⟨f,Ne.symm z⟩) d;rw [h]at g;have:l<0:=by
     refine Or.elim (Int.lt_or_le l 0) (fun q=>?_) (fun q=>?_)
     ·exact q
     ·have:=Int.mul_nonneg (Int.le_of_lt i) q;exact absurd (Int.lt_of_le_of_lt this g) (DY rfl)
    simp [d,Int.not_lt.mpr f,this]
   ·have g:0<j*k:=Int.mul_pos (Int.lt_iff_le_and_ne.mpr ⟨f,Ne.symm z⟩) (Int.lt_iff_le_and_ne.mpr ⟨d,Ne.symm r⟩);rw [h]at g;have:0<l:=Int.pos_of_mul_pos_right g i;simp [Int.not_lt.mpr f,Int.not_lt.mpr d];exact Int.le_of_lt this
  rw [this,FO]
theorem WN {x:UInt64} {j l:Int} (q:Xf x j) (p:Xf y k) (h:j*k=16*l) (hl:Sm l):Xf (mul x y) l:=by
 refine Bt (q) fun d o=>?_;refine Cg (d) fun a m e n=>?_;refine Bt (p) fun c f=>?_;refine Cg (c) fun b m' s i=>?_;have g:=mul_right n i;replace g:=o▸g;replace g:=f▸g;replace g:=(Dv ..)▸g;replace g:=(Dv ..)▸g;have:=Cs (k:=l.natAbs) (Nat.two_pow_pos _) g hl (by
  have r:j.natAbs*k.natAbs=16*l.natAbs:=by refine Eq.trans (Int.natAbs_mul ..).symm ?_;refine AB h ?_;refine Eq.trans (Int.natAbs_mul ..) ?_;rfl
  refine Eq.trans (Nat.mul_mul_mul_comm ..) ?_;refine AB r ?_;refine AB (show(2:Nat)^1074=16*2^1070 by refine AB (show(1074:Nat)=4+1070 from rfl) ?_;refine Eq.trans (Nat.pow_add ..) ?_;rfl) ?_;generalize (2:Nat)^1070=P;exact Nat.mul_mul_mul_comm 16 l.natAbs P P)
 rwa [IH n i o f (by constructor) h]at this
set_option tactic.hygienic true in
theorem UH {x:UInt64} (g:isFinite x=true) (i:Xf y 0):Xf (mul x y) 0:=by
 refine Bt (i) fun h d=>?_;refine Cg (h) fun b m' j f=>?_;unfold isFinite at g;split at g
 ·rename_i a m e dx;have c:=mul_right dx f;rw [d,Int.zero_mul,Int.natAbs_zero,Nat.mul_zero]at c;have:=Cs (k:=0) (Nat.two_pow_pos _) c (Nat.two_pow_pos 53) (Nat.eq_of_beq_eq_true g);rwa [EF]at this
 ·injection g
theorem Ma {x:UInt64} (h:Xf x k):isFinite x=true:=by
 refine Bt (h) fun y z=>?_;refine Cg (y) fun a m e d=>?_;unfold isFinite;refine AB d ?_;rfl
theorem Gu {x:UInt64} (h:Xf x k):isZero x=(k==0):=by
 obtain⟨⟨a,m,e,d⟩,v⟩:=h;replace v:=(val_eq d)▸v;unfold isZero;refine AB d ?_;clear d;induction m with
 |zero=>
  rw [Nat.zero_mul,EF]at v;have:=Cf v.symm;refine AB this ?_;rfl
 |succ m=>
  have:k≠0:=fun q=>by
   rw [q,Int.zero_mul]at v;have g:=congrArg Int.natAbs v;replace g:=(sgn_natAbs ..)▸g;refine Or.elim (Nat.mul_eq_zero.mp g) (fun y=>?_) (fun y=>?_)
   ·injection y
   ·have:=Nat.two_pow_pos (e+1074).toNat;exact Nat.ne_of_lt this (id (Eq.symm y))
  simp [this]
theorem Rc {x:UInt64} (j:Xf x k) (c:Xf y k):cmp x y=some .eq:=by
 refine Bt (j) fun g l=>?_;refine Cg (g) fun a m e f=>?_;refine Bt (c) fun h d=>?_;refine Cg (h) fun b m' n i=>?_;refine Eq.trans (cmp_right f i) ?_;refine AB l ?_;refine AB d ?_;simp
theorem JO {r:UInt64} {neg:Bool} {D:Nat} (h:Right r neg W D) (y:2*W<D*((2^54-1)*2^2045)):∃ m e,decode r = .fin neg m e:=by
 refine Cy (h) fun t k g x z=>?_;obtain rfl:=k;have:t<infMag:=by
  refine Or.elim (Nat.lt_or_ge t infMag) (fun h=>?_) (fun h=>?_)
  ·exact h
  ·exact absurd (x.mp (Nat.le_antisymm g h)) (Nat.not_le.mpr y)
 refine CD (decode_pack neg this) fun m e hd z=>?_;exact(DB m e hd)
theorem cmp_self {x:UInt64} {a:Bool} {e:Int} (d:decode x = .fin a m e):cmp x x=some .eq:=by
 refine Eq.trans (cmp_right d d) ?_;simp
end
section
open Float64
theorem O0 {neg:Bool} {M:Nat} {g:Int} (h : -2148≤g):Right (ofBin neg M g) neg (M*2^(g+2148).toNat) (2^1074):=by
 unfold ofBin;have hd:0<(shift M 1 g).2:=by unfold shift;split<;>first | exact Nat.one_pos | (refine AB (Nat.one_mul ..) ?_;exact Nat.two_pow_pos _)
 refine ofFrac_right hd ?_ (Nat.two_pow_pos _);refine Eq.trans (Nat.mul_assoc ..) ?_;refine Ar (Nat.pow_add ..) ?_;exact(shift_one M g 2148 h)
theorem WO {x z:UInt64} {j l m:Int} (R:Xf x j) (Q:Xf y k) (hz:Xf z m) (h:j*k=16*l) (N:Sm (l+m)):Xf (fma x y z) (l+m):=by
 refine Bt (R) fun q I=>?_;refine Cg (q) fun a o e B=>?_;refine Bt (Q) fun w H=>?_;refine Cg (w) fun b i f A=>?_;refine Bt (hz) fun r W=>?_;refine Cg (r) fun c n g E=>?_;have Y:=decode_ge B;have gf:=decode_ge A;have gg:=decode_ge E;have p:(sgn (a != b) (o*i*2^((e+f)-min (e+f) g).toNat)+sgn c (n*2^(g-min (e+f) g).toNat))*((2^(min (e+f) g+2148).toNat:Nat):Int)=(l+m)*2^2144:=by
  refine Eq.trans (Int.add_mul ..) ?_;refine Ar (sgn_mul ..) ?_;refine Ar (sgn_mul ..) ?_;refine AB (Nat.mul_assoc (o*i) ..) ?_;refine AB (Nat.mul_assoc n ..) ?_;refine Ar (Nat.pow_add ..) ?_;refine Ar (Nat.pow_add ..) ?_;have C:=Int.min_le_left (e+f) g;have F:=Int.min_le_right (e+f) g;have D : -2148≤min (e+f) g:=Int.le_min.mpr ⟨(show(-1074:Int) + -1074≤e+f from Int.add_le_add Y gf),Int.le_trans (by decide) gg⟩;have J:∀ {a b c d:Int},0≤a→0≤b→0≤c→0≤d→a+b=c+d→a.toNat+b.toNat=c.toNat+d.toNat:=fun X U L hd h=>by refine Eq.trans (Int.toNat_add X U).symm ?_;refine Eq.trans ?_ (Int.toNat_add L hd);refine AB h ?_;rfl
  have V:((e+f)-min (e+f) g).toNat+(min (e+f) g+2148).toNat=(e+1074).toNat+(f+1074).toNat:=by generalize min (e+f) g=m at *;exact J (Int.sub_nonneg_of_le C) (Int.add_nonneg_iff_neg_le.mpr D) (Int.add_nonneg_iff_neg_le.mpr Y) (Int.add_nonneg_iff_neg_le.mpr gf) (by rw [←Int.add_assoc,Int.sub_add_cancel];exact(Int.add_assoc (e+f) 1074 1074).symm.trans ((congrArg (· + 1074) (Int.add_right_comm e f 1074)).trans (Int.add_assoc (e+1074) f 1074)))
  have K:(g-min (e+f) g).toNat+(min (e+f) g+2148).toNat=(g+1074).toNat+1074:=by generalize min (e+f) g=m at *;exact J (d:=1074) (Int.sub_nonneg_of_le F) (Int.add_nonneg_iff_neg_le.mpr D) (Int.add_nonneg_iff_neg_le.mpr gg) (Int.zero_le_ofNat 1074) (by rw [←Int.add_assoc,Int.sub_add_cancel];exact(Int.add_assoc g 1074 1074).symm)
  refine AB V ?_;refine AB K ?_;rewrite [Nat.pow_add];rewrite [Nat.pow_add];refine Ar (Nat.mul_assoc n ..) ?_;refine AB (sgn_mul c ..) ?_;refine Ar (val_eq E) ?_;refine AB W ?_;refine Eq.trans ?_ (Int.add_mul ..).symm;have O:o*i*(2^(e+1074).toNat*2^(f+1074).toNat)=(val x).natAbs*(val y).natAbs:=by
   refine AB (val_natAbs B) ?_;refine AB (val_natAbs A) ?_;refine Eq.trans (Nat.mul_mul_mul_comm ..) ?_;rfl
  have Z:(val x).natAbs*(val y).natAbs=l.natAbs*2^2144:=by
   refine AB I ?_;refine AB H ?_;refine AB (Dv ..) ?_;refine AB (Dv ..) ?_;refine Eq.trans (Nat.mul_mul_mul_comm ..) ?_;refine Ar (Int.natAbs_mul ..) ?_;refine AB h ?_;refine AB (Int.natAbs_mul ..) ?_;rewrite [←Nat.pow_add];refine AB (show(2144:Nat)=4+(1070+1070)from rfl) ?_;refine AB (Nat.pow_add 2 4 ..) ?_;show 16*l.natAbs*_=_;refine AB (Nat.mul_comm 16 ..) ?_;refine Eq.trans (Nat.mul_assoc ..) ?_;rfl
  refine AB O ?_;refine AB Z ?_;refine AB (sgn_mul ..) ?_;refine AB (IH B A I H (by decide) h) ?_;have e5:((2^2144:Nat):Int)=2^2144:=by refine Eq.trans (Int.natCast_pow ..) ?_;rfl
  have S:((2^1074:Nat):Int)=2^1074:=by refine Eq.trans (Int.natCast_pow ..) ?_;rfl
  refine AB e5 ?_;refine AB S ?_;refine AB (Int.mul_assoc ..) ?_;refine Ar (Int.pow_add ..) ?_;rfl
 have G:fma x y z=(if sgn (a != b) (o*i*2^((e+f)-min (e+f) g).toNat)+sgn c (n*2^(g-min (e+f) g).toNat)==0 then zero (if o*i==0&&n==0 then(a != b)&&c else false)else
   ofBin (decide (sgn (a != b) (o*i*2^((e+f)-min (e+f) g).toNat)+sgn c (n*2^(g-min (e+f) g).toNat)<0)) (sgn (a != b) (o*i*2^((e+f)-min (e+f) g).toNat)+sgn c (n*2^(g-min (e+f) g).toNat)).natAbs (min (e+f) g)):=by
  unfold fma;refine AB B ?_;refine AB A ?_;refine AB E ?_;rfl
 generalize sgn (a != b) (o*i*2^((e+f)-min (e+f) g).toNat)+sgn c (n*2^(g-min (e+f) g).toNat)=s at *;have T:((2^(min (e+f) g+2148).toNat:Nat):Int)=2^(min (e+f) g+2148).toNat:=by refine Eq.trans (Int.natCast_pow ..) ?_;rfl
 replace p:=T▸p;refine AB G ?_
 by_cases t:s=0
 ·clear G;subst t;replace p:=(Int.zero_mul ..)▸p;have:=Cf p.symm;refine AB (if_pos (by rfl)) ?_;refine AB this ?_;exact EU _
 ·refine AB (if_neg (by simpa using t)) ?_;have:=Cs (k:=(l+m).natAbs) (Nat.two_pow_pos _) (O0 (neg:=decide (s<0)) (M:=s.natAbs) (g:=min (e+f) g) (Int.le_min.mpr ⟨(show(-1074:Int) + -1074≤e+f from Int.add_le_add Y gf),Int.le_trans (by decide) gg⟩)) N (by
   have u:=congrArg Int.natAbs p;replace u:=(Dv ..).symm.trans u;replace u:=u.trans (Dv ..);refine Eq.trans u ?_;refine AB (show(2144:Nat)=1074+1070 from rfl) ?_;refine AB (Nat.pow_add ..) ?_;exact Nat.mul_left_comm _ _ _)
  have P:decide (s<0)=decide (l+m<0):=by
   have v:=EE s (min (e+f) g+2148).toNat;replace v:=p▸v;replace v:=(EE ..).symm.trans v;exact v.symm
  rw [P]at this ⊢;rwa [FO]at this
set_option tactic.hygienic true in
theorem WQ {x:UInt64} {q n:Int} (v:Xf x (q*n)) (u:Xf y (16*n)) (d:0<n) (t:Sm q):Xf (div x y) q:=by
 obtain⟨⟨a,m,e,s⟩,vx⟩:=v;obtain⟨⟨b,k,f,o⟩,vy⟩:=u;have w:k≠0:=fun h=>by
  have g:=val_natAbs o;replace g:=h▸g;replace g:=g.trans (Nat.zero_mul ..);replace g:=vy▸g;exact Int.ne_of_gt (Int.mul_pos (by decide) d) (Cf (Int.natAbs_eq_zero.mp g))
 have c:=div_right s o w;have i:=sign_of o (by refine AB vy ?_;exact fun h=>Int.ne_of_gt (Int.mul_pos (by decide) d) (Cf h));replace i:=vy▸i;replace i:=i.trans (EE ..);have l:b=false:=by refine Eq.trans i ?_;simp;exact Int.le_of_lt (Int.mul_pos (DY rfl) d)
 replace c:=vx▸c;replace c:=vy▸c;replace c:=(Dv ..)▸c;rewrite [Dv]at c;have:=Cs (k:=q.natAbs) (Nat.mul_pos (Zi d) (Nat.two_pow_pos _)) c t (by
  refine AB (Int.natAbs_mul ..) ?_;refine AB (Int.natAbs_mul ..) ?_;refine AB (show(2:Nat)^1074=16*2^1070 by refine AB (show(1074:Nat)=4+1070 from rfl) ?_;refine Eq.trans (Nat.pow_add ..) ?_;rfl) ?_;generalize (2:Nat)^1070=P;show _=16*n.natAbs*P*(q.natAbs*P);simp only [Nat.mul_assoc,Nat.mul_comm,Nat.mul_left_comm])
 by_cases p:q=0
 ·clear c t;subst p;rw [Int.natAbs_zero,EF]at this;exact this
 ·have j:=sign_of s (by refine AB vx ?_;exact fun h=>(Int.mul_eq_zero.mp (Cf h)).elim p (Int.ne_of_gt d));replace j:=vx▸j;replace j:=j.trans (EE ..);have:(a != b)=decide (q<0):=by
   refine AB l ?_;refine Eq.trans (Bool.bne_false ..) ?_;refine Eq.trans j ?_;apply decide_eq_decide.mpr;constructor
   ·intro g;refine Or.elim (Int.lt_or_le q 0) (fun r=>?_) (fun r=>?_)
    ·exact r
    ·have:=Int.mul_nonneg r (Int.le_of_lt d);exact Int.neg_of_mul_neg_left g d
   ·intro g;exact Int.mul_neg_of_neg_of_pos g d
  rename_i h0;rwa [this,FO]at h0
theorem E6 {a b:Int} (h:0<b):Right (qf a b) (decide (a<0)) (a.natAbs*2^1074) b.natAbs:=by
 have:(decide (a<0) != decide (b<0))=decide (a<0):=by refine AB (decide_eq_false (Int.not_lt.mpr (Int.le_of_lt h):¬b<0)) ?_;refine Eq.trans (Bool.bne_false ..) ?_;rfl
 unfold qf;refine AB this ?_;exact ofFrac_right (Ka h) rfl (Ka h)
theorem Rd {a b:Int} (y:0<b) (h:16*a=b*k) (c:Sm k):Xf (qf a b) k:=by
 have:=Cs (k:=k.natAbs) (Ka y) (E6 (a:=a) y) c (by
  have x:=congrArg Int.natAbs h;replace x:=(Int.natAbs_mul ..).symm.trans x;replace x:=x.trans (Int.natAbs_mul ..);refine AB (show(1074:Nat)=4+1070 from rfl) ?_;refine AB (Nat.pow_add ..) ?_;refine Eq.trans (Nat.mul_assoc ..).symm ?_;refine Eq.trans ?_ (Nat.mul_assoc ..);refine Ar x ?_
  congr 1
  exact Nat.mul_comm _ _)
 have e:decide (a<0)=decide (k<0):=by
  apply decide_eq_decide.mpr;constructor
  ·intro x;refine Or.elim (Int.lt_or_le k 0) (fun g=>?_) (fun g=>?_)
   ·exact g
   ·have:=Int.mul_nonneg (Int.le_of_lt y) g;exact Wx h x this
  ·intro x;have:=Int.mul_neg_of_pos_of_neg y x;exact Wy h this
 rwa [e,FO]at this
theorem FP {x:UInt64} {j a b:Int} (H:Xf x j) (G:Xf y k) (u:0<k) (r:0<b) (e:j*b=a*k) (C:Sm a):cmp (div x y) (qf a b)=some .eq∧isFinite (div x y)=true:=by
 refine Bt (H) fun s z=>?_;refine Cg (s) fun c m K E=>?_;refine Bt (G) fun q t=>?_;refine Cg (q) fun d n L v=>?_;have J:n≠0:=fun h=>by
  have g:=val_natAbs v;replace g:=h▸g;replace g:=g.trans (Nat.zero_mul ..);replace g:=t▸g;exact Int.ne_of_gt u (Cf (Int.natAbs_eq_zero.mp g))
 have f:=div_right E v J;have hd:=sign_of v (by refine AB t ?_;exact fun h=>Int.ne_of_gt u (Cf h));replace hd:=t▸hd;replace hd:=hd.trans (EE ..);have B:d=false:=by refine Eq.trans hd ?_;simp;exact Int.le_of_lt u
 replace f:=z▸f;replace f:=t▸f;replace f:=(Dv ..)▸f;rewrite [Dv]at f;have F:=E6 (a:=a) r;have p:0<k.natAbs*2^1070:=Nat.mul_pos (Ka u) (Nat.two_pow_pos _)
 by_cases D:j=0
 ·subst D;have I:a=0:=by
   replace e:=(Int.zero_mul ..).symm.trans e;exact(Int.mul_eq_zero.mp e.symm).elim id fun h=>absurd h (Int.ne_of_gt u)
  subst I;simp only [Int.natAbs_zero,Nat.zero_mul]at f;have g:=Cs (k:=0) p f (by decide) (by refine AB (Nat.zero_mul ..) ?_;refine Eq.trans ?_ (Nat.mul_zero ..).symm;rfl);rw [EF]at g;exact⟨Rc g (Rd (a:=0) (k:=0) r (by simp) (show Sm 0 by unfold Sm;decide)),Ma g⟩
 ·have o:=sign_of E (by refine AB z ?_;exact fun h=>D (Cf h));replace o:=z▸o;replace o:=o.trans (EE ..);have A:(c != d)=decide (a<0):=by
   refine AB B ?_;refine Eq.trans (Bool.bne_false ..) ?_;refine Eq.trans o ?_;apply decide_eq_decide.mpr;constructor
   ·intro g;have w:=Int.mul_neg_of_neg_of_pos g r;refine Or.elim (Int.lt_or_le a 0) (fun l=>?_) (fun l=>?_)
    ·exact l
    ·exact absurd (e.symm▸Int.mul_nonneg l (Int.le_of_lt u)) (Int.not_le.mpr w)
   ·intro g;have w:=Int.mul_neg_of_neg_of_pos g u;refine Or.elim (Int.lt_or_le j 0) (fun l=>?_) (fun l=>?_)
    ·exact l
    ·exact absurd (e▸Int.mul_nonneg l (Int.le_of_lt r)) (Int.not_le.mpr w)
  replace f:=A▸f;refine Bj ((JO F (by
   have g:2*(a.natAbs*2^1074)<2^54*2^1074:=by refine Ar (Nat.mul_assoc ..) ?_;exact Nat.mul_lt_mul_of_pos_right (by unfold Sm at C;exact Nat.lt_of_le_of_lt (Nat.mul_le_mul_left 2 (R7 C)) (DY rfl)) (Nat.two_pow_pos _)
   have w:2^54*2^1074≤1*((2^54-1)*2^2045):=by decide
   exact Nat.lt_of_lt_of_le g (AJ w (Nat.mul_le_mul_right _ (Ka r)))))) fun m' M i=>?_
  rw [(Fp p (Ka r) f F (by
   have g:=congrArg Int.natAbs e;rw [Int.natAbs_mul,Int.natAbs_mul]at g;generalize (2:Nat)^1070=P;generalize (2:Nat)^1074=R;have:j.natAbs*P*R*b.natAbs=j.natAbs*b.natAbs*(P*R):=by simp only [Nat.mul_assoc,Nat.mul_comm,Nat.mul_left_comm]
   rw [this,g];simp only [Nat.mul_assoc,Nat.mul_comm,Nat.mul_left_comm]))]
  exact⟨cmp_self i,by unfold isFinite;refine AB i ?_;rfl⟩
end
section
open Float64
noncomputable def Ck (k:Int):UInt64:=qf k 16
theorem Dg (h:Sm k):Xf (Ck k) k:=Rd (by decide) rfl h
theorem J9 {r:UInt64} (h:Right r (decide (k<0)) (k.natAbs*2^1070) 1):r=Ck k:=
 Fp (by decide) (by decide) h (E6 (by decide)) (by
  refine Eq.trans ?_ (Nat.mul_one ..).symm;refine AB (show(1074:Nat)=1070+4 from rfl) ?_;refine AB (Nat.pow_add ..) ?_;refine Eq.trans ?_ (Nat.mul_assoc ..);rfl)
theorem II:zero false=Ck 0:=by decide +kernel
theorem Lu {a:Bool} {e:Int} (h:Sm k) (d:decode (Ck k) = .fin a m e):a=decide (k<0):=by
 by_cases c:k=0
 ·subst c;have:decode (Ck 0) = .fin false 0 (-1074):=by refine Ar II ?_;with_unfolding_all rfl
  refine CK (PySem.Float64.Num.fin.inj ((this.symm.trans d))) fun y x g=>?_;obtain rfl:=y;refine AB x ?_;refine AB g ?_;rfl
 ·have b:=(Dg h).2;have:=sign_of d (by refine AB b ?_;exact fun q=>c (Cf q));rwa [b,EE]at this
theorem J' {j:Int} (l:Sm j) (f:Sm k):add (Ck j) (Ck k)=Ck (j+k):=by
 refine Bt (Dg l) fun h o=>?_;refine Cg (h) fun a m e d=>?_;refine Bt (Dg f) fun x n=>?_;refine Cg (x) fun b m' p c=>?_;refine Bt (add_right d c) fun g i=>?_;rw [o,n,←Int.add_mul]at g i
 by_cases y:j+k=0
 ·refine AB y ?_;refine Eq.trans (g (by refine AB y ?_;refine Eq.trans (Int.zero_mul ..) ?_;rfl)) ?_;refine AB (Lu l d) ?_;refine AB (Lu f c) ?_;have:(decide (j<0)&&decide (k<0))=false:=by simp;lia
  refine AB this ?_;refine Eq.trans II ?_;rfl
 ·refine J9 ?_;have:=i fun q=>y (Cf q);rwa [EE,Dv]at this
theorem JP (i:Int):ofInt i=Ck (16*i):=by
 have h:=ofInt_right i;refine J9 ?_;have e:decide (16*i<0)=decide (i<0):=by apply decide_eq_decide.mpr;exact VM
 rw [e,Int.natAbs_mul];rw [show(1074:Nat)=4+1070 from rfl,Nat.pow_add,←Nat.mul_assoc,Nat.mul_comm i.natAbs]at h;exact h
theorem Rf (f:Xf y k):add (ofInt 0) y=Ck k:=by
 refine Bt (f) fun h c=>?_;refine Cg (h) fun b m' j d=>?_;have g:decode (ofInt 0) = .fin false 0 (-1074):=by with_unfolding_all rfl
 have i:val (ofInt 0)=0:=by refine Eq.trans (val_eq g) ?_;refine AB (Nat.zero_mul ..) ?_;rfl
 refine Bt (add_right g d) fun x a=>?_;rw [i,c,Int.zero_add]at x a
 by_cases e:k=0
 ·refine Eq.trans (x (by refine AB e ?_;refine Eq.trans (Int.zero_mul ..) ?_;rfl)) ?_;refine AB e ?_;exact II
 ·refine J9 ?_;have:=a fun q=>e (Cf q);rwa [EE,Dv]at this
theorem Ay (h:k.natAbs≤2^30):Sm k:=by unfold Sm;exact Nat.lt_of_le_of_lt h (DY rfl)
noncomputable def PX (ps:List UInt64) (s:Int):Prop:=(ps=[]∧s=0)∨∃ p,ps=[p]∧Xf p s
theorem Ng {x:UInt64} {j:Int} (e:Xf x j) (h:Xf y k) (c:j.natAbs≤2^28) (b:k.natAbs≤2^28):Xf (add x y) (j+k)∧isZero (sub y (sub (add x y) x))=true:=by
 have g:=EV e h (Ay (AJ (Yi c b) (by decide)));have a:=EW h (EW g e (Ay (Lz R9 b (by decide)))) (Ay (Lz VN (Nat.le_refl 0) (by decide)));refine⟨g,?_⟩
 refine Eq.trans (Gu a) ?_;refine AB (Int.add_comm ..) ?_;refine AB (Int.add_sub_cancel ..) ?_;refine AB (Int.sub_self ..) ?_;rfl
theorem UI {c:List UInt64} {s:Int} {x:UInt64} (h:PX c s) (l:Xf x k) (t:s.natAbs≤2^28) (o:k.natAbs≤2^28):∃ q,Jl c x=some q∧PX q (s+k):=by
 have d:∃ y,fsumAdd c x=([],y)∧Xf y (s+k):=by
  refine Or.elim h (fun b=>?_) (fun a=>?_)
  ·obtain⟨rfl,rfl⟩:=b;exact(AQ x rfl (by rwa [Int.zero_add]))
  ·obtain⟨p,rfl,n⟩:=a;simp only [fsumAdd];split
   ·refine Bt (Ng n l t o) fun r j=>?_;exact(AQ _ (by refine AB (if_pos j) ?_;rfl) r)
   ·refine Bt (Ng l n o t) fun r j=>?_;exact(AQ _ (by refine AB (if_pos j) ?_;rfl) (by rwa [Int.add_comm]))
 refine AF (d) fun y e f=>?_;unfold Jl;refine AB e ?_;have m:=Ma f
 by_cases g:isZero y=true
 ·have i:Hx (([],y):List UInt64×UInt64)=[]:=by unfold Hx;refine Eq.trans (if_pos g) ?_;rfl
  refine AB i ?_;refine AB (if_pos ⟨m,by simp⟩) ?_;refine(AQ _ rfl (.inl ⟨rfl,?_⟩))
  replace g:=(Gu f).symm.trans g;simpa using g
 ·have i:Hx (([],y):List UInt64×UInt64)=[y]:=by unfold Hx;refine Eq.trans (if_neg g) ?_;rfl
  refine AB i ?_;refine AB (if_pos ⟨m,by simp⟩) ?_;exact(AQ _ rfl (.inr ⟨y,rfl,f⟩))
theorem Nh {s:Int} {L C:Nat} (h:s.natAbs+(L+1)*B≤C) (e:k.natAbs≤B):(s+k).natAbs+L*B≤C∧s.natAbs≤C:=by
 rw [Nat.succ_mul,Nat.add_comm (L*B),←Nat.add_assoc]at h;exact⟨AJ (Nat.add_le_add_right (AJ (Int.natAbs_add_le _ _) (Nat.add_le_add_left e _)) _) h,AJ (AJ (Nat.le_add_right _ _) (Nat.le_add_right _ _)) h⟩
theorem WR {y:Type} (F:y→FV) (kf:y→Int):∀ (xs:List y) (k:List UInt64) (s:Int),(∀ a∈xs,∃ x,toF (F a)=some x∧Xf x (kf a)∧(kf a).natAbs≤2^20)→PX k s→s.natAbs+xs.length*2^20≤2^28→∃ qs,Et (xs.map F) k=some qs∧PX qs (s+(xs.map kf).sum):=by
 intro xs
 induction xs with
 |nil=>intro k s _ h _;exact(AQ k rfl (by simpa using h))
 |cons a xs i=>
  intro k s g h e;refine AY (g a List.mem_cons_self) fun x m f d=>?_;replace e:=List.length_cons▸e;have c:=Nh e d;refine AF (UI h f c.2 (bd d)) fun q j h'=>?_;refine AF (i q (s+kf a) (fun b e=>g b (List.mem_cons_of_mem _ e)) h' c.1) fun qs l n=>?_;refine(AQ qs ?_ ?_)
  ·refine AB List.map_cons ?_;rewrite [Et];refine AB m ?_;simp only [j];exact l
  ·rwa [List.map_cons,List.sum_cons,←Int.add_assoc]
theorem WS {g:List UInt64} {s:Int} (h:PX g s):Xf (fsumEnd g) s:=by
 refine Or.elim h (fun y=>?_) (fun k=>?_)
 ·refine W9 (y) fun e=>?_;refine AB e ?_;exact EU false
 ·refine AF (k) fun p x a=>?_;clear h k;obtain rfl:=x;exact a
theorem Mb {k:Type} {F:k→FV} {kf:k→Int} {xs:List k} (h:∀ a∈xs,∃ x,toF (F a)=some x∧Xf x (kf a)∧(kf a).natAbs≤2^20) (hl:xs.length≤100):∃ qs,Et (xs.map F) []=some qs∧Xf (fsumEnd qs) (xs.map kf).sum:=by
 refine AF (WR F kf xs [] 0 h (.inl ⟨rfl,rfl⟩) (by simpa using AJ (Nat.mul_le_mul_right _ hl) (by decide)) ) fun qs e p=>?_;rw [Int.zero_add]at p;exact(AQ qs e (WS p))
noncomputable def TX (t:Bc) (s:Int):Prop:=Xf t.1 s∧Xf t.2.1 0∧Xf t.2.2 0
theorem KA {a b:UInt64} {i j:Int} (k:Xf a i) (x:Xf b j) (d:i.natAbs≤2^28) (c:j.natAbs≤2^28):Xf (dlSum a b).1 (i+j)∧Xf (dlSum a b).2 0:=by
 have h:=EV k x (Ay (by exact AJ (Yi d c) (DY rfl)));have y:=EW h k (Ay (Lz R9 c (by decide)));have g:=EW k (EW h y (Ay (Lz W4 d (by decide)))) (Ay (Lz W5 (Nat.le_refl 0) (by decide)));have e:=EV g (EW x y (Ay (Lz VN (Nat.le_refl 0) (by decide)))) (Ay (Lz W6 (Nat.le_refl 0) (by decide)));refine⟨h,?_⟩
 rw [W6]at e;exact e
theorem WT {x:UInt64} {t:Bc} {j l s:Int} (a:Xf x j) (e:Xf y k) (o:TX t s) (h:j*k=16*l) (p:s.natAbs≤2^27) (hl:l.natAbs≤2^27):TX (tlFma x y t) (s+l):=by
 refine CK (o) fun m n i=>?_;have d:=WN a e h (Ay (by exact AJ hl (DY rfl)));have c:=WO a e (Rb d) h (Ay (by rw [Int.add_right_neg];decide));rw [Int.add_right_neg]at c;have b:=KA m d (by exact AJ p (DY rfl)) (by lia);have g:=KA n c (by decide) (by decide);have f:=KA g.1 b.2 (by decide) (by decide);exact⟨b.1,f.1,(EV (EV i g.2 (Ay (by decide))) f.2 (Ay (by decide)))⟩
theorem Rg {t:Bc} {s:Int} (g:TX t s) (a:s.natAbs≤2^27):Xf (tlToFloat t) s:=by
 refine CK (g) fun x y e=>?_;have h:=KA y x (by decide) (by lia);have k:=EV (EV e h.2 (Ay (by decide))) h.1 (Ay (by lia));rw [Int.zero_add,Int.zero_add,Int.zero_add]at k;exact k
structure Yd (f g:FV) (l:Int):Prop where
 ex:∃ x y j k,Hz f=some x∧Hz g=some y∧Xf x j∧Xf y k∧j*k=16*l
 fl:(EL f||EL g)=true
 bd:l.natAbs≤2^20
theorem WU {c:Type} (F G:c→FV) (lf:c→Int):∀ (xs:List c) (t:Bc) (s:Int),(∀ a∈xs,Yd (F a) (G a) (lf a))→TX t s→s.natAbs+xs.length*2^20≤2^27→∃ g,Eu (xs.map F) (xs.map G) t=some g∧TX g (s+(xs.map lf).sum):=by
 intro xs
 induction xs with
 |nil=>intro t s _ h _;exact(AQ t rfl (by simpa using h))
 |cons a xs l=>
  intro t s d h e;obtain⟨⟨x,y,j,k,q,i,p,m,o⟩,e6,e7⟩:=d a List.mem_cons_self;replace e:=List.length_cons▸e;have f:=Nh e e7;have h':=WT p m h o (bd f.2) (bd e7);refine AF (l _ _ (fun b e=>d b (List.mem_cons_of_mem _ e)) h' f.1) fun g n r=>?_;refine(AQ g ?_ ?_)
  ·refine AB List.map_cons ?_;refine AB List.map_cons ?_;refine Eq.trans (show Eu (F a::xs.map F) (G a::xs.map G) t=(Hz (F a)).bind fun x=>(Hz (G a)).bind fun y=>if(EL (F a)||EL (G a))=true∧Float64.isFinite (tlFma x y t).1=true then Eu (xs.map F) (xs.map G) (tlFma x y t)else none from rfl) ?_;refine AB q ?_;refine AB i ?_;simp only [Option.bind_some,e6,Ma h'.1,and_self,if_true];exact n
  ·rwa [List.map_cons,List.sum_cons,←Int.add_assoc]
theorem IJ {x:Type} {F G:x→FV} {lf:x→Int} {xs:List x} (h:∀ a∈xs,Yd (F a) (G a) (lf a)) (hl:xs.length≤100):∃ t,Eu (xs.map F) (xs.map G) z3=some t∧CO t=Ck (xs.map lf).sum∧Xf (tlToFloat t) (xs.map lf).sum:=by
 refine AF (WU F G lf xs z3 0 h (B2 (EU false) (EU false) (EU false)) (by simpa using AJ (Nat.mul_le_mul_right _ hl) (by decide)) ) fun t e p=>?_;rw [Int.zero_add]at p;have g:(xs.map lf).sum.natAbs≤2^27:=by
  refine AJ (Cr _ (2^20) fun v y=>?_) ?_
  ·refine AF (List.mem_map.mp y) fun a b k=>?_;clear y;obtain rfl:=k;exact(h a b).bd
  ·refine AB (List.length_map ..) ?_;exact AJ (Nat.mul_le_mul_right _ hl) (by decide)
 exact(Aj t e (Rf (Rg p g)) (Rg p g))
end
end
section
open PySem PySem.W PySem.Calls PyProof.Rows PySem.Spec PySem.Builtin.Math
section
variable {α β:Type}
noncomputable def Sg (xs:List α) (f:α→Int):Int:=(xs.map f).sum
theorem Rh (f:α→Int):Sg [] f=0:=rfl
theorem A4 (a:α) (xs:List α) (f:α→Int):Sg (a::xs) f=f a+Sg xs f:=by rfl
theorem Ac {xs:List α} {f g:α→Int} (h:∀ a∈xs,f a=g a):Sg xs f=Sg xs g:=by unfold Sg;exact congrArg _ (List.map_congr_left h)
theorem CW (xs:List α) (f g:α→Int):Sg xs (fun a=>f a+g a)=Sg xs f+Sg xs g:=by
 induction xs with
 |nil=>rfl
 |cons a l h=>refine Eq.trans (A4 ..) ?_;refine AB (A4 ..) ?_;refine AB (A4 ..) ?_;refine AB h ?_;lia
theorem Bf (xs:List α) (c:Int) (f:α→Int):Sg xs (fun a=>c*f a)=c*Sg xs f:=by
 induction xs with
 |nil=>simp [Sg]
 |cons a l h=>refine Eq.trans (A4 ..) ?_;refine AB (A4 ..) ?_;refine AB h ?_;refine Eq.trans ?_ (Int.mul_add ..).symm;rfl
theorem Fq (xs:List α) (f:α→Int):Sg xs (fun a=>-f a) = -Sg xs f:=by
 have:=Bf xs (-1) f;rw [(Int.neg_eq_neg_one_mul (Sg xs f)).symm]at this;refine Eq.trans ?_ this;exact Ac fun a z=>by exact Int.neg_eq_neg_one_mul (f a)
theorem KC (xs:List α) (c d:Int) (f g:α→Int):Sg xs (fun a=>c*f a+d*g a)=c*Sg xs f+d*Sg xs g:=by refine Eq.trans (CW ..) ?_;refine AB (Bf ..) ?_;refine AB (Bf ..) ?_;rfl
theorem Bz (xs:List α) (c:Int):Sg xs (fun z=>c)=xs.length*c:=by
 induction xs with
 |nil=>simp [Sg]
 |cons a l h=>refine Eq.trans (A4 ..) ?_;refine AB h ?_;refine AB List.length_cons ?_;push_cast;refine Eq.trans ?_ (Int.add_mul ..).symm;exact(Int.add_comm ..).trans (congrArg ((l.length:Int)*c + ·) (Int.one_mul c).symm)
theorem Dw (xs:List α) (ys:List β) (f:α→β→Int):Sg xs (fun a=>Sg ys fun b=>f a b)=Sg ys fun b=>Sg xs fun a=>f a b:=by
 induction xs with
 |nil=>refine Eq.trans (Rh ..) ?_;refine AB (Ac (g:=fun z=>0) fun b z=>Rh _) ?_;refine Eq.trans ?_ (Bz ..).symm;rfl
 |cons a l h=>refine Eq.trans (A4 ..) ?_;refine AB h ?_;refine Ar (CW ..) ?_;exact Ac fun b z=>(A4 a l fun a=>f a b).symm
theorem Ni (xs:List α) (ys:List β) (f:α→Int) (g:β→Int):Sg xs f*Sg ys g=Sg xs fun a=>Sg ys fun b=>f a*g b:=by
 refine Eq.trans (Int.mul_comm ..) ?_;refine Ar (Bf ..) ?_;exact Ac fun a z=>by refine Eq.trans (Int.mul_comm ..) ?_;refine Ar (Bf ..) ?_;rfl
theorem UJ (xs:List α) (ys:List β) (f:α→β→Int):(xs.flatMap fun a=>ys.map (f a)).sum=Sg xs fun a=>Sg ys (f a):=by
 induction xs with
 |nil=>rfl
 |cons a l h=>refine AB List.flatMap_cons ?_;refine Eq.trans List.sum_append ?_;refine AB h ?_;refine AB (A4 ..) ?_;rfl
theorem DL (xs:List α) (h:α→β) (f:β→Int):Sg (xs.map h) f=Sg xs fun a=>f (h a):=by unfold Sg;refine AB List.map_map ?_;rfl
theorem Gv {xs:List α} {f:α→Int} (h:∀ a∈xs,0≤f a):0≤Sg xs f:=by
 induction xs with
 |nil=>exact Int.le_refl _
 |cons a l e=>
  refine AB (A4 ..) ?_;have:=h a List.mem_cons_self;have:=e fun b k=>h b (List.mem_cons_of_mem _ k)
  (expose_names;exact Int.add_nonneg this_1 this)
theorem Nj {xs:List α} {f:α→Int} (h:∀ a∈xs,0≤f a) (x:Sg xs f=0):∀ a∈xs,f a=0:=by
 induction xs with
 |nil=>exact Dh
 |cons a l y=>
  replace x:=(A4 ..)▸x;have g:=h a List.mem_cons_self;have c:=Gv fun b k=>h b (List.mem_cons_of_mem a k);intro b k;refine Or.elim (List.mem_cons.mp k) (fun e=>?_) (fun k=>?_)
  ·refine AB e ?_;exact Int.le_antisymm (x▸Int.le_add_of_nonneg_right c) g
  ·exact y (fun b k=>h b (List.mem_cons_of_mem _ k)) (Int.le_antisymm (x▸Int.le_add_of_nonneg_left g) c) b k
end
noncomputable def sg (a b:Int):Int:=b2i (decide (a<b))-b2i (decide (b<a))
theorem Gw (a b:Int):sg a b = -sg b a:=(Int.neg_sub ..).symm
theorem Dx {a b:Int} (h:a<b):sg a b=1:=by unfold sg;rw [decide_eq_true h,decide_eq_false (Int.not_lt.mpr (Int.le_of_lt h))];rfl
theorem E7 {a b:Int} (h:b<a):sg a b = -1:=by refine Eq.trans (Gw ..) ?_;refine AB (Dx h) ?_;rfl
theorem Cb (a:Int):sg a a=0:=Int.sub_self _
theorem UK (xs:List Int):Sg xs (fun a=>Sg xs fun b=>sg a b)=0:=by
 have h:=Dw xs xs sg;have k:(Sg xs fun b=>Sg xs fun a=>sg a b) = -Sg xs fun b=>Sg xs fun a=>sg b a:=by
  refine Ar (Fq ..) ?_;exact Ac fun b z=>by refine Ar (Fq ..) ?_;exact Ac fun a z=>Gw _ _
 exact W7 (h.trans k)
noncomputable def sV (wo:List Int) (x:Int):Int:=Sg wo fun u=>sg u x
theorem WV (a b c:Int):sg b a*sg c a+sg a b*sg c b+sg b c*sg a c+b2i (b==a)*b2i (c==a)=1:=by
 have i:∀ {x y:Int},y≠x→b2i (y==x)=0:=fun h=>by refine AB (beq_false_of_ne h) ?_;rfl
 have j:∀ x:Int,b2i (x==x)=1:=fun x=>by refine AB (beq_self_eq_true ..) ?_;rfl
 refine AB (Gw a b) ?_;refine AB (Gw b c) ?_;refine AB (Gw a c) ?_;refine Or.elim (Int.lt_trichotomy a b) (fun h=>?_) (fun f=>Or.elim f (fun e=>?_) (fun h=>?_))
 ·refine AB (E7 h) ?_;refine AB (i (Int.ne_of_gt h)) ?_;refine Or.elim ((show c<b∨a<c by exact Wz h)) (fun k=>?_) (fun k=>?_)
  ·refine AB (Dx k) ?_;lia
  ·refine AB (E7 k) ?_;lia
 ·refine Ar e ?_;refine AB (Cb ..) ?_;refine AB (j ..) ?_;refine Or.elim (Int.lt_trichotomy c a) (fun k=>?_) (fun g=>Or.elim g (fun d=>?_) (fun k=>?_))
  ·refine AB (Dx k) ?_;refine AB (i (Int.ne_of_lt k)) ?_;rfl
  ·refine Ar d ?_;refine AB (Cb ..) ?_;refine AB (j ..) ?_;rfl
  ·refine AB (E7 k) ?_;refine AB (i (Int.ne_of_gt k)) ?_;rfl
 ·refine AB (Dx h) ?_;refine AB (i (Int.ne_of_lt h)) ?_;refine Or.elim ((show c<a∨b<c by exact Wz h)) (fun k=>?_) (fun k=>?_)
  ·refine AB (Dx k) ?_;lia
  ·refine AB (E7 k) ?_;lia
theorem WW (wo:List Int) (v:Int):DS wo v=Sg wo fun u=>b2i (u==v):=by
 unfold DS
 induction wo with
 |nil=>rfl
 |cons a l k=>
  refine AB (A4 ..) ?_;refine Ar k ?_;refine AB List.filter_cons ?_;cases h:a==v
  ·exact Int.sub_eq_iff_eq_add'.mp rfl
  ·exact Int.add_comm (↑(List.filter (fun u=>u==v) l).length) 1
theorem Ri (wo:List Int):Fb wo=(wo.length:Int)*wo.length*wo.length-Sg wo fun v=>DS wo v*DS wo v:=by
 unfold Fb;have:(wo.map fun v=>DS wo v*DS wo v-1).sum=(Sg wo fun v=>DS wo v*DS wo v)+wo.length*(-1):=by rw [←Bz,←CW];rfl
 refine AB this ?_;lia
theorem UL (wo:List Int):Fb wo=3*Sg wo fun x=>sV wo x*sV wo x:=by
 have y:∀ F:Int→Int→Int→Int,(Sg wo fun a=>Sg wo fun b=>Sg wo fun c=>F a b c)=Sg wo fun a=>Sg wo fun b=>Sg wo fun c=>F c b a:=fun F=>by
  rw [Ac fun a z=>Dw wo wo fun b c=>F a b c,Dw];exact Ac fun c z=>Dw wo wo fun a b=>F a b c
 have k:(Sg wo fun v=>DS wo v*DS wo v)=Sg wo fun a=>Sg wo fun b=>Sg wo fun c=>b2i (b==a)*b2i (c==a):=Ac fun a z=>by refine AB (WW ..) ?_;exact Ni _ _ _ _
 have d:=(fun F=>Dw wo wo fun a b=>Sg wo fun c=>F a b c) fun a b c=>sg b a*sg c a;have g:=y fun a b c=>sg b a*sg c a;have h:(Sg wo fun a=>Sg wo fun b=>Sg wo fun c=>sg b a*sg c a)+(Sg wo fun a=>Sg wo fun b=>Sg wo fun c=>sg a b*sg c b)+(Sg wo fun a=>Sg wo fun b=>Sg wo fun c=>sg b c*sg a c)+(Sg wo fun a=>Sg wo fun b=>Sg wo fun c=>b2i (b==a)*b2i (c==a))=wo.length*(wo.length*(wo.length*1)):=by
  rw [←CW,←CW,←CW,←Bz,←Bz,←Bz];refine Ac fun a z=>?_;rw [←CW,←CW,←CW];refine Ac fun b z=>?_;rw [←CW,←CW,←CW];exact Ac fun c z=>WV a b c
 rw [Ri,k,(Ac fun a z=>Ni _ _ _ _:(Sg wo fun x=>sV wo x*sV wo x)=Sg wo fun a=>Sg wo fun b=>Sg wo fun c=>sg b a*sg c a)];rw [Int.mul_one,←Int.mul_assoc]at h;exact Zn h d g
structure Runs (a:Nat→Int) (N M:Nat) (b:Nat→Nat):Prop where
 b0:b 0=0
 M0:0<M
 bM:b M=N
 lt:∀ t,t<M→b t<b (t+1)∧b (t+1)≤N
 same:∀ t,t<M→∀ k,b t≤k→k<b (t+1)→a k=a (b t)
 stop:∀ t,t<M→b (t+1)<N→a (b (t+1))≠a (b t)
section
variable {a:Nat→Int} {N M:Nat} {b:Nat→Nat}
theorem last_run (a:Nat→Int) (N:Nat):∃ s,s≤N∧(∀ k,s≤k→k≤N→a k=a N)∧(s=0∨a (s-1)≠a N):=by
 induction N with
 |zero=>exact Aj 0 (Nat.le_refl _) (fun k z h=>congrArg _ (Nat.le_zero.mp h)) (.inl rfl)
 |succ N g=>
  by_cases e:a N=a (N+1)
  ·refine AY (g) fun s d f c=>?_;exact Aj s (Nat.le_succ_of_le d) (fun k x y=>(Nat.le_succ_iff.mp y).elim (fun h=>(f k x h).trans e) (congrArg _)) (e▸c)
  ·exact Aj (N+1) (Nat.le_refl _) (fun k x y=>congrArg _ (Nat.le_antisymm y x)) (.inr e)
theorem UM (a:Nat→Int):∀ N,0<N→∃ M b,Runs a N M b:=by
 intro N
 induction N using Nat.strongRecOn with
 |ind N z=>
  intro n;refine AY (last_run a (N-1)) fun s o u v=>?_;have l:s<N:=Nat.lt_of_le_of_lt o (Nat.sub_lt n Nat.one_pos);have e:∀ k,s≤k→k<N→a k=a (N-1):=fun k d c=>u k d (Nat.le_sub_one_of_lt c)
  by_cases m:s=0
  ·clear u o;subst m;exact⟨1,fun t=>t*N,Nat.zero_mul _,Nat.one_pos,Nat.one_mul _,fun t x=>by obtain rfl:=Nat.lt_one_iff.mp x;simpa using n,fun t x k w c=>by obtain rfl:=Nat.lt_one_iff.mp x;refine Eq.trans (e k (Nat.zero_le _) (by simpa using c)) ?_;exact(e (0*N) (Nat.zero_le _) (by refine AB (Nat.zero_mul ..) ?_;exact n)).symm,fun t x h=>by obtain rfl:=Nat.lt_one_iff.mp x;simp at h⟩
  ·refine Bj (z s l (Nat.pos_of_ne_zero m)) fun M b R=>?_;have g:∀ t,t<M+1→(if t≤M then b t else N)=b t:=fun t h=>if_pos (Nat.le_of_lt_succ h);have y:(if M+1≤M then b (M+1)else N)=N:=if_neg (Nat.not_succ_le_self M);refine⟨M+1,fun t=>if t≤M then b t else N,(if_pos (Nat.zero_le _)).trans R.b0,Nat.succ_pos _,y,fun t x=>?_,fun t x k d c=>?_,fun t x h=>?_⟩
   ·refine Or.elim (Nat.lt_or_eq_of_le (Nat.le_of_lt_succ x)) (fun q=>?_) (fun f=>?_)
    ·refine AB (g t x) ?_;refine AB (g (t+1) (Nat.succ_lt_succ q)) ?_;exact⟨(R.lt t q).1,Nat.le_of_lt (Nat.lt_of_le_of_lt (R.lt t q).2 l)⟩
    ·obtain rfl:=f;refine AB (g t x) ?_;refine AB y ?_;refine AB R.bM ?_;exact⟨l,Nat.le_refl _⟩
   ·refine Or.elim (Nat.lt_or_eq_of_le (Nat.le_of_lt_succ x)) (fun q=>?_) (fun i=>?_)
    ·rw [g t x]at d ⊢;rw [g (t+1) (Nat.succ_lt_succ q)]at c;exact R.same t q k d c
    ·obtain rfl:=i;rw [g t x,R.bM]at d ⊢;rw [y]at c;refine Eq.trans (e k d c) ?_;refine Eq.trans ?_ (e s (Nat.le_refl _) l).symm;rfl
   ·refine Or.elim (Nat.lt_or_eq_of_le (Nat.le_of_lt_succ x)) (fun q=>?_) (fun j=>?_)
    ·refine AB (g t x) ?_;refine AB (g (t+1) (Nat.succ_lt_succ q)) ?_;refine Or.elim (Nat.lt_or_eq_of_le (R.lt t q).2) (fun r=>?_) (fun r=>?_)
     ·exact R.stop t q r
     ·refine AB r ?_;refine AB (e s (Nat.le_refl _) l) ?_;refine Ar (R.same t q (s-1) (by refine Ar r ?_;exact Nat.le_sub_one_of_lt (R.lt t q).1) (by refine AB r ?_;exact Nat.sub_lt (Nat.pos_of_ne_zero m) Nat.one_pos)) ?_;exact(v.resolve_left m).symm
    ·clear R g x;obtain rfl:=j;rw [y]at h;exact absurd h (Nat.lt_irrefl _)
theorem Runs.le (R:Runs a N M b) {t:Nat} (h:t≤M):b t≤N:=by
 refine Or.elim (Nat.lt_or_eq_of_le h) (fun q=>?_) (fun k=>?_)
 ·exact AJ (Nat.le_of_lt (R.lt t q).1) (R.lt t q).2
 ·refine AB k ?_;exact Nat.le_of_eq R.bM
theorem Runs.mono (R:Runs a N M b) {s:Nat} (t:Nat):t≤M→s≤t→b s≤b t:=by
 induction t with
 |zero=>exact fun z h=>Nat.le_zero.mp h▸Nat.le_refl _
 |succ t e=>exact fun k h=>(Nat.le_succ_iff.mp h).elim (fun q=>AJ (e (Nat.le_of_succ_le k) q) (Nat.le_of_lt (R.lt t k).1)) fun q=>q▸Nat.le_refl _
theorem Runs.find (R:Runs a N M b) (T:Nat):T≤M→∀ k,k<b T→∃ t,t<T∧b t≤k∧k<b (t+1):=by
 induction T with
 |zero=>exact fun z k h=>absurd (R.b0▸h) (Nat.not_lt_zero k)
 |succ T x=>exact fun y k h=>(Nat.lt_or_ge k (b T)).elim (fun q=>AF (x (Nat.le_of_succ_le y) k q) fun t e g=>⟨t,Nat.lt_succ_of_lt e,g⟩) fun q=>⟨T,Nat.lt_succ_self _,q,h⟩
theorem Runs.Ye (R:Runs a N M b) {t:Nat} (k:t<M) (h:b (t+1)<N):a (b (t+1)-1)≠a (b (t+1)):=by
 have l:=(R.lt t k).1;refine AB (R.same t k _ (Nat.le_sub_one_of_lt l) (Nat.sub_lt (Nat.lt_of_le_of_lt (Nat.zero_le _) l) Nat.one_pos)) ?_;exact(R.stop t k h).symm
end
theorem UN {k:Type} {xs ys:List k} {f:k→Int} (h:xs.Perm ys):Sg xs f=Sg ys f:=by
 induction h with
 |nil=>rfl
 |cons a _ e=>refine Eq.trans (A4 ..) ?_;refine Eq.trans ?_ (A4 ..).symm;refine AB e ?_;rfl
 |swap a b l=>refine Eq.trans (A4 ..) ?_;refine AB (A4 ..) ?_;refine Eq.trans ?_ (A4 ..).symm;refine AB (A4 ..) ?_;exact Int.add_left_comm (f b) (f a) (Sg l f)
 |trans _ _ y x=>refine Eq.trans y ?_;refine Eq.trans x ?_;rfl
theorem UO (ns:List Int) (f:Int→Int):Sg ns f=Sg (List.range ns.length) fun i=>f (ns.getD i 0):=by
 induction ns with
 |nil=>rfl
 |cons a l h=>
  refine Eq.trans (A4 ..) ?_;refine AB List.length_cons ?_;refine AB List.range_succ_eq_map ?_;refine AB (A4 ..) ?_;refine AB (DL ..) ?_;refine AB h ?_;rfl
section
variable {b:Bool} {ns:List Int} {P:Nat→Nat}
theorem CG.inj (S:CG b ns P) {j k:Nat} (d:j<ns.length) (c:k<ns.length) (h:P j=P k):j=k:=by
 have y:∀ {j k},j<k→k<ns.length→P j≠P k:=fun {j k} e f g=>by
  have:=S.ord j k e f;rw [g]at this;cases b<;>simp [FT]at this
 refine Or.elim (Nat.lt_trichotomy j k) (fun e=>?_) (fun x=>Or.elim x (fun e=>?_) (fun e=>?_))
 ·exact(y e c h).elim
 ·exact e
 ·exact(y e d h.symm).elim
theorem CG.le (S:CG b ns P) {j k:Nat} (h:j≤k) (x:k<ns.length):if b then ns.getD (P k) 0≤ns.getD (P j) 0 else ns.getD (P j) 0≤ns.getD (P k) 0:=by
 by_cases e:j=k
 ·refine AB e ?_;split<;>exact Int.le_refl _
 ·have:=S.ord j k (Nat.lt_of_le_of_ne h e) x;cases b
  ·simp [FT]at this ⊢;exact this.elim Int.le_of_lt fun q=>Int.le_of_eq q.1
  ·simp [FT]at this ⊢;exact this.elim Int.le_of_lt fun q=>Int.le_of_eq q.1
theorem CG.sum (S:CG b ns P) (f:Int→Int):Sg ns f=Sg (List.range ns.length) fun k=>f (ns.getD (P k) 0):=by
 refine Eq.trans (UO ..) ?_;refine Eq.trans ?_ (DL _ P fun i=>f (ns.getD i 0));refine UN ((List.perm_ext_iff_of_nodup List.nodup_range ?_).mpr fun i=>?_)
 ·unfold List.Nodup;rw [List.pairwise_map];refine List.Pairwise.imp_of_mem ?_ List.nodup_range;intro j k g x y h;exact y (S.inj (List.mem_range.mp g) (List.mem_range.mp x) h)
 ·rw [List.mem_range,List.mem_map];constructor
  ·intro h;refine AF (S.aR i h) fun k x e=>?_;exact(AQ k (List.mem_range.mpr x) e)
  ·rintro ⟨k,x,rfl⟩;exact S.lt k (List.mem_range.mp x)
end
theorem Rj (f:Nat→Int) (i j N:Nat) (r:i≤j) (s:j≤N) (c:Int) (o:∀ k,k<i→f k=c) (m:∀ k,i≤k→k<j→f k=0) (d:∀ k,j≤k→k<N→f k = -c):Sg (List.range N) f=c*((i:Int)+j-N):=by
 have y:∀ n,n≤N→Sg (List.range n) f=c*(if n≤i then(n:Int)else if n≤j then i else(i:Int)+j-n):=by
  intro n
  induction n with
  |zero=>intro _;simp [Sg]
  |succ n l=>
   intro g;have e:Sg (List.range (n+1)) f=Sg (List.range n) f+f n:=by unfold Sg;refine AB List.range_succ ?_;refine AB List.map_append ?_;refine Eq.trans List.sum_append ?_;simp
   refine Eq.trans e ?_;refine AB (l (Nat.le_of_lt g)) ?_
   by_cases q1:n<i
   ·refine AB (o n q1) ?_;refine AB (if_pos (Nat.le_of_lt q1)) ?_;refine AB (if_pos q1) ?_;push_cast;refine AB (Int.mul_add ..) ?_;exact congrArg (c*(n:Int) + ·) (Int.mul_one c).symm
   ·by_cases h:n<j
    ·refine AB (m n (Nat.not_lt.mp q1) h) ?_;refine AB (if_neg (show ¬n+1≤i by exact q1)) ?_;refine AB (if_pos (show n+1≤j by exact h)) ?_
     by_cases x:n≤i
     ·refine AB (if_pos x) ?_;refine AB (show n=i by exact Nat.le_antisymm x (Nat.not_lt.mp q1)) ?_;exact Int.add_zero (c * ↑i)
     ·refine AB (if_neg x) ?_;refine AB (if_pos (Nat.le_of_lt h)) ?_;exact Int.add_zero _
    ·refine AB (d n (da h) g) ?_;refine AB (if_neg (show ¬n+1≤i by exact q1)) ?_;refine AB (if_neg (show ¬n+1≤j by exact h)) ?_;have:(if n≤i then(n:Int)else if n≤j then(i:Int)else i+j-n)=i+j-n:=by
      split
      ·have a:i=n:=Nat.le_antisymm (Nat.not_lt.mp q1) (by assumption);have b:j=n:=Nat.le_antisymm (Nat.not_lt.mp h) (AJ (by assumption) r);rw [a,b];exact(Int.add_sub_cancel ..).symm
      ·split
       ·have b:j=n:=Nat.le_antisymm (Nat.not_lt.mp h) (by assumption);rw [b];exact(Int.add_sub_cancel ..).symm
       ·rfl
     refine AB this ?_;push_cast;refine AB ((Int.sub_sub ..).symm:(i:Int)+j-(n+1)=(i+j-n) + -1) ?_;refine Eq.trans ?_ (Int.mul_add ..).symm;exact congrArg (_ + ·) ((Int.neg_eq_neg_one_mul c).trans (Int.mul_comm ..))
 refine Eq.trans (y N (Nat.le_refl _)) ?_
 congr 1
 split
 ·have a:i=N:=Nat.le_antisymm (AJ r s) (by assumption);have b:j=N:=Nat.le_antisymm s (AJ (by assumption) r);rw [a,b];exact(Int.add_sub_cancel ..).symm
 ·split
  ·have b:j=N:=Nat.le_antisymm s (by assumption);rw [b];exact(Int.add_sub_cancel ..).symm
  ·rfl
theorem WX {a b:Int} (g:0<b) (h:16*a=b*k):qf a b=Ck k:=by
 have e:decide (a<0)=decide (k<0):=by
  apply decide_eq_decide.mpr;constructor
  ·intro y;refine Or.elim (Int.lt_or_le k 0) (fun x=>?_) (fun x=>?_)
   ·exact x
   ·have:=Int.mul_nonneg (Int.le_of_lt g) x;exact Wx h y this
  ·intro y;have:=Int.mul_neg_of_pos_of_neg g y;exact Wy h this
 have y:=E6 (a:=a) g;rw [e]at y;refine Fp (Ka g) (Nat.zero_lt_succ 15) y (E6 (a:=k) (b:=16) (by constructor)) ?_;have x:=congrArg Int.natAbs h;replace x:=(Int.natAbs_mul ..).symm.trans x;replace x:=x.trans (Int.natAbs_mul ..);generalize (2:Nat)^1074=R;have c:a.natAbs*16=k.natAbs*b.natAbs:=by refine Eq.trans (Nat.mul_comm ..) ?_;refine Eq.trans ?_ (Nat.mul_comm k.natAbs ..).symm;exact x
 calc a.natAbs*R*16=a.natAbs*16*R:=Nat.mul_right_comm a.natAbs R 16
  _=k.natAbs*b.natAbs*R:=by refine AB c ?_;rfl
  _=_:=Nat.mul_right_comm k.natAbs b.natAbs R
theorem O1 {pp:Nat→Nat} (m:Nat):(∀ j,j<m→pp j≠i)→(E0 xs pp f m)[i]? = xs[i]?:=by
 induction m with
 |zero=>exact fun z=>rfl
 |succ m k=>
  intro h;rw [ET,List.getElem?_set_ne (h m (Nat.lt_succ_self m))];exact k fun j e=>h j (Nat.lt_succ_of_lt e)
theorem Rk {pp:Nat→Nat} {j:Nat} (m:Nat):j<m→pp j<xs.length→(∀ i,i<m→pp i=pp j→i=j)→(E0 xs pp f m)[pp j]? = some f:=by
 induction m with
 |zero=>exact fun h=>absurd h (Nat.not_lt_zero j)
 |succ m y=>
  intro h hl x;refine AB (ET ..) ?_
  by_cases e:m=j
  ·rw [e,List.getElem?_set_self (by rw [FJ];exact hl)]
  ·rw [List.getElem?_set_ne fun q=>e (x m (Nat.lt_succ_self m) q)];exact y (Nat.lt_of_le_of_ne (Nat.le_of_lt_succ h) (Ne.symm e)) hl fun i k=>x i (Nat.lt_succ_of_lt k)
noncomputable def dir (b:Bool):Int:=if b then -1 else 1
theorem CG.cut {ns:List Int} {P:Nat→Nat} (S:CG b ns P) {q k j:Nat} (d:ns.getD (P (q-1)) 0≠ns.getD (P q) 0) (i:k<q) (g:q≤j) (y:j<ns.length):sg (ns.getD (P k) 0) (ns.getD (P j) 0)=dir b∧sg (ns.getD (P j) 0) (ns.getD (P k) 0) = -dir b:=by
 have e:=Nat.lt_of_le_of_lt g y;have f:=S.le (Nat.le_sub_one_of_lt i) (Nat.lt_of_le_of_lt (Nat.sub_le _ _) e);have x:=S.le (Nat.sub_le q 1) e;have c:=S.le g y;clear S;induction b with
 |false=>
  have h:=Int.lt_of_le_of_lt f (Int.lt_of_lt_of_le (Int.lt_iff_le_and_ne.mpr ⟨x,d⟩) c);exact⟨Dx h,E7 h⟩
 |true=>
  have h:=Int.lt_of_le_of_lt c (Int.lt_of_lt_of_le (Int.lt_iff_le_and_ne.mpr ⟨x,d.symm⟩) f);exact⟨E7 h,Dx h⟩
theorem WY {a:Nat→Int} {M:Nat} {b P:Nat→Nat} {y:Nat→UInt64} (R:Runs a N M b) (o:xs.length=N) (r:∀ k,k<N→P k<N) (m:∀ {j k},j<N→k<N→P j=P k→j=k) :
  ∀ T,T≤M→∀ t,t<T→∀ k,b t≤k→k<b (t+1)→(Th xs b P y T)[P k]? = some (.AS (y t)):=fun T=>by
 induction T with
 |zero=>intro _ t h;exact absurd h (Nat.not_lt_zero _)
 |succ T n=>
  intro x t l k g d;have v:=R.le x;have c:k<N:=Nat.lt_of_lt_of_le d (R.le (Nat.lt_of_lt_of_le l x));rw [Th];refine Or.elim (Nat.lt_or_eq_of_le (Nat.le_of_lt_succ l)) (fun q=>?_) (fun e=>?_)
  ·have u:=R.mono T (Nat.le_of_succ_le x) q;rw [O1 _ fun j z h=>?_]
   ·exact n (Nat.le_of_succ_le x) t q k g d
   ·have e:=m (Nat.lt_of_lt_of_le (Yl z) v) c h;exact Nat.not_lt.mpr (e▸Nat.le_add_right (b T) j:b T≤k) (Nat.lt_of_lt_of_le d u)
  ·refine Ar e ?_;have:=Rk (xs:=Th xs b P y t) (pp:=fun j=>P (b t+j)) (f:=.AS (y t)) (j:=k-b t) (b (t+1)-b t) (Nat.sub_lt_sub_right g d) (by refine AB (HX ..) ?_;refine AB o ?_;exact r _ ((Nat.add_sub_of_le g).symm▸c)) fun i s h=>by
    have:=m (Nat.lt_of_lt_of_le (Yl s) (e▸v)) ((Nat.add_sub_of_le g).symm▸c) h;exact Nat.add_left_cancel this
   rwa [Nat.add_sub_of_le g]at this
section
variable {w:Wd} {p q:Nat}
theorem KD : qf ((m:Int)+1) 2=Ck (8*((m:Int)+1)):=WX (by constructor) (by refine Ar (Int.mul_assoc ..) ?_;rfl)
theorem small {i:Int} (h:i.natAbs≤2^21):i.natAbs<2^1023:=Nat.lt_of_le_of_lt h (Nat.pow_lt_pow_right Nat.one_lt_two (Nat.lt_of_sub_eq_succ rfl))
theorem Rl (h:m≤6):((m:Int)+1).natAbs≤7:=Nat.succ_le_succ h
theorem UP {i:Int} (d:i.natAbs≤2^20) (h:p≤q) (c:q≤6):∃ k,D2 w .Div (.int (((q-p:Nat):Int)+1)) (.int 2) (.AS k)∧D2 w .Add (.int (i+p)) (.AS k) (.AS (Ck (16*i+8*((p:Int)+q+1))))∧Q1 w .Add (.int (i+p)) (.int ((q-p:Nat):Int)) (.int (i+q)):=by
 have x:=Rl (AJ (Nat.sub_le q p) c);have g:(i+(p:Int)).natAbs≤2^20+6:=GQ d (AJ h c);have e:((q-p:Nat):Int)=q-p:=Int.ofNat_sub h;refine(Aj _ (Jc (by decide) (small (bd x))) ?_ ?_)
 ·have o:=Iu (w:=w) (i:=i+p) (y:=qf (((q-p:Nat):Int)+1) 2) (small (bd g));rw [KD,JP,J' (Ay (bd (AO (A:=16) (by decide) g))) (Ay (bd (AO (A:=8) (by decide) x)))]at o;refine AB KD ?_;rwa [show 16*(i+(p:Int))+8*(((q-p:Nat):Int)+1)=16*i+8*((p:Int)+q+1) by refine AB e ?_;lia]at o
 ·have o:=Te (w:=w) (i:=i+p) (j:=((q-p:Nat):Int));rwa [show i+(p:Int)+((q-p:Nat):Int)=i+q by refine AB e ?_;lia]at o
theorem UQ (i:k.natAbs≤2^20) (h:p≤q) (g:q≤6):∃ d,D2 w .Div (.int (((q-p:Nat):Int)+1)) (.int 2) (.AS d)∧D2 w .Add (.AS (Ck (k+16*p))) (.AS d) (.AS (Ck (k+8*((p:Int)+q+1))))∧Q1 w .Add (.AS (Ck (k+16*p))) (.int ((q-p:Nat):Int)) (.AS (Ck (k+16*q))):=by
 have hd:((q-p:Nat):Int).natAbs≤6:=AJ (Nat.sub_le q p) g;have c:=Rl (AJ (Nat.sub_le q p) g);have f:Sm (k+16*(p:Int)):=Ay (bd (GQ i (AO (A:=16) (B:=6) (by constructor) (AJ h g))));have e:((q-p:Nat):Int)=q-p:=Int.ofNat_sub h;refine(Aj _ (Jc (by decide) (small (bd c))) ?_ ?_)
 ·have o:=Hi (w:=w) (x:=Ck (k+16*p)) (y:=qf (((q-p:Nat):Int)+1) 2);rw [KD,J' f (Ay (bd (AO (A:=8) (by decide) c)))]at o;refine AB KD ?_;rwa [show k+16*(p:Int)+8*(((q-p:Nat):Int)+1)=k+8*((p:Int)+q+1) by refine AB e ?_;lia]at o
 ·have o:=Oh (w:=w) (x:=Ck (k+16*p)) (j:=((q-p:Nat):Int)) (small (bd hd));rw [JP,J' f (Ay (bd (AO (A:=16) (by decide) hd)))]at o;rwa [show k+16*(p:Int)+16*((q-p:Nat):Int)=k+16*q by refine AB e ?_;lia]at o
end
theorem WZ {ns:List Int} {P:Nat→Nat} (S:CG b ns P) {M:Nat} {bd:Nat→Nat} (R:Runs (fun k=>ns.getD (P k) 0) ns.length M bd) {t:Nat} (x:t<M):sV ns (ns.getD (P (bd t)) 0)=dir b*((bd t:Int)+bd (t+1)-ns.length):=by
 have h:=R.lt t x;refine Eq.trans (S.sum fun u=>sg u (ns.getD (P (bd t)) 0)) ?_;refine Rj _ _ _ _ (Nat.le_of_lt h.1) h.2 _ (fun k g=>?_) (fun k e y=>?_) fun k e y=>?_
 ·induction t with
  |zero=>rw [R.b0]at g;exact absurd g (Nat.not_lt_zero _)
  |succ t=>exact(S.cut (R.Ye (Nat.lt_of_succ_lt x) (Nat.lt_of_lt_of_le h.1 h.2)) g (Nat.le_refl _) (Nat.lt_of_lt_of_le h.1 h.2)).1
 ·refine AB (show ns.getD (P k) 0=ns.getD (P (bd t)) 0 from R.same t x k e y) ?_;refine Eq.trans (Cb ..) ?_;rfl
 ·exact(S.cut (R.Ye x (Nat.lt_of_le_of_lt e y)) h.1 e y).2
theorem Lv {ns:List Int} {iv0:FV} {k0:Int} (F:1≤ns.length) (B:ns.length≤6) (s:k0.natAbs≤2^20) (l:(∃ i,iv0 = .int i∧k0=16*i)∨iv0 = .AS (Ck k0)) :
  Cp w b ns iv0 (ns.map fun x=>.AS (Ck (k0+8*(ns.length+1+(if b then -sV ns x else sV ns x))))):=by
 intro P S;refine Bj (UM (fun k=>ns.getD (P k) 0) ns.length F) fun M bd R=>?_;have H:∃ d:Nat→FV,d 0=iv0∧∀ t,t<M→∃ A,D2 w .Div (.int (((bd (t+1)-bd t:Nat):Int)+1)) (.int 2) (.AS A)∧D2 w .Add (d t) (.AS A) (.AS (Ck (k0+8*((bd t:Int)+bd (t+1)+1))))∧Q1 w .Add (d t) (.int ((bd (t+1)-bd t:Nat):Int)) (d (t+1)):=by
  refine Or.elim l (fun h=>?_) (fun y=>?_)
  ·refine AF (h) fun i f j=>?_;clear h l;obtain rfl:=f;obtain rfl:=j;exact(AQ (fun t=>.int (i+bd t)) (by show FV.int (i+bd 0)=_;refine AB R.b0 ?_;simp) (fun t c=>UP (by replace s:=(Int.natAbs_mul ..)▸s;exact AJ (Nat.le_mul_of_pos_left _ (Nat.zero_lt_succ 15)) s) (Nat.le_of_lt (R.lt t c).1) (AJ (R.lt t c).2 B)))
  ·refine AB y ?_;exact(AQ (fun t=>.AS (Ck (k0+16*bd t))) (by show FV.AS (Ck (k0+16*bd 0))=_;refine AB R.b0 ?_;simp) (fun t c=>UQ s (Nat.le_of_lt (R.lt t c).1) (AJ (R.lt t c).2 B)))
 refine AF (H) fun d m r=>?_;refine(Hg M bd d (fun t=>Ck (k0+8*((bd t:Int)+bd (t+1)+1))) (fun g v G=>?_) m ?_)
 ·have D:g.a=fun k=>ns.getD (P k) 0:=funext G;exact⟨R.b0,R.M0,v▸R.bM,fun t c=>v▸R.lt t c,D▸R.same,D▸v▸R.stop,r⟩
 ·refine List.ext_getElem? fun i=>?_
  by_cases n:i<ns.length
  ·refine AF (S.aR i n) fun k z o=>?_;obtain rfl:=o;refine AY (R.find M (Nat.le_refl _) k (R.bM.symm▸z)) fun t u E C=>?_;rw [WY R (List.length_replicate ..) S.lt S.inj M (Nat.le_refl _) t u k E C,List.getElem?_map,List.getElem?_eq_getElem n,Option.map_some,show ns[P k]=ns.getD (P (bd t)) 0 from(show ns[P k]=ns.getD (P k) 0 by simp [n]).trans (R.same t u k E C)]
   congr 4
   have e:=WZ S R u;cases b
   ·refine AB (if_neg (by decide)) ?_;refine AB e ?_;refine AB (show dir false=1 from rfl) ?_;lia
   ·refine AB (if_pos rfl) ?_;refine AB e ?_;refine AB (show dir true = -1 from rfl) ?_;lia
  ·rw [List.getElem?_eq_none (by rw [HX,List.length_replicate];exact Nat.not_lt.mp n),List.getElem?_eq_none (by rw [List.length_map];exact Nat.not_lt.mp n)]
noncomputable def Nf (f:FV) (k:Int):Prop:=F9 f∧∃ x,toF f=some x∧Hz f=some x∧Xf x k
theorem Gx {i:Int} (h:i.natAbs≤2^20):Nf (.int i) (16*i):=by
 have x:=E5 (i:=i) (by exact Nat.lt_of_le_of_lt h (DY rfl));refine(PL (show i.natAbs<2^53 by exact Nat.lt_of_le_of_lt h (DY rfl)) _ (if_pos (show i.natAbs<2^53 from Nat.lt_of_le_of_lt h (DY rfl))) (if_neg ?_) x)
 refine Bt (x) fun k z=>?_;refine Cg (k) fun a m e d=>?_;unfold Float64.isInf;refine AB d ?_;exact Bool.false_ne_true
theorem Wa (h:Sm k):Nf (.AS (Ck k)) k:=(PL trivial _ rfl rfl (Dg h))
theorem VD {x:UInt64} (h:Xf x k) (y:k≠0):¬Float64.isZero x=true:=by refine AB (Gu h) ?_;exact fun e=>y (eq_of_beq e)
theorem Lw {a:Int} (h:0≤a) (k:a≠0):0<a:=Int.lt_iff_le_and_ne.mpr ⟨h,Ne.symm k⟩
theorem Rm {m:Int} {d:UInt64} (h:Nf f k) (c:Xf d m) (n:Sm (k-m)):∃ x,B5 d f = .AS x∧Xf x (k-m):=by
 refine JU (h) fun b x o p j=>?_;clear h p;induction f with
 |int i=>
  have e:x=Float64.ofInt i:=by
   have a:(if i.natAbs<2^53 then some (Float64.ofInt i)else none)=some x:=o;replace a:=(if_pos (show i.natAbs<2^53 from b)).symm.trans a;exact(Ai a).symm
  exact(AQ _ rfl (by refine Ar e ?_;exact EW j c n))
 |AS y=>refine AB (Ai o) ?_;exact(AQ _ rfl (EW j c n))
 |none=>exact b.elim
 |bool=>exact b.elim
section
variable {α:Type} {F G:α→FV} {f g l:α→Int} {z:List α} {m m':Int} {xb yb:UInt64}
theorem GU (h:∀ a∈z,Nf (F a) (f a)∧(f a).natAbs≤2^20) (hl:z.length≤100) (d:0<z.length) (o:Sm m) (i:Sg z f=m*z.length):∃ y,DM (z.map F)=some y∧Xf y m:=by
 refine AF (Mb (F:=F) (kf:=f) (xs:=z) (fun a q=>by
  refine Bt (h a q) fun k c=>?_;obtain⟨_,x,n,_,j⟩:=k;exact(Aj x n j c)) hl) fun qs p b=>?_
 have e:Xf (Float64.fsumEnd qs) (Sg z f):=b;rw [i]at e;refine(AQ _ (by unfold DM;refine AB p ?_;rfl) ?_)
 refine AB (List.length_map ..) ?_;exact WQ e (E5 (by exact Nv hl (DY rfl))) (by exact Yj d) o
theorem Rn {a b:Int} (h:∀ a∈z,Nf (F a) (f a)∧(f a).natAbs≤2^20) (hl:z.length≤100) (q:0<z.length) (n:0<b) (j:Sm a) (y:Sg z f*b=a*(16*z.length)):∃ k,DM (z.map F)=some k∧Float64.cmp k (qf a b)=some .eq:=by
 refine AF (Mb (F:=F) (kf:=f) (xs:=z) (fun a p=>by
  obtain⟨⟨_,x,d,_,c⟩,h3⟩:=h a p;exact(Aj x d c h3)) hl) fun qs o e=>?_
 refine(AQ _ (by unfold DM;refine AB o ?_;rfl) ?_)
 refine AB (List.length_map ..) ?_;exact(FP e (E5 (i:=(z.length:Int)) (Nv hl (DY rfl))) (Int.mul_pos (by decide) (Int.ofNat_lt.mpr q)) n y j).1
theorem GX (s:∀ a∈z,Nf (F a) (f a)) (b:∀ a∈z,Nf (G a) (g a)) (c:Xf xb m) (d:Xf yb m') (q:∀ a∈z,Sm (f a-m)∧Sm (g a-m')∧(f a-m)*(g a-m')=16*l a∧(l a).natAbs≤2^20) (hl:z.length≤100) :
  ∃ t,Eu ((z.map F).map (B5 xb)) ((z.map G).map (B5 yb)) z3=some t∧CO t=Ck (Sg z l)∧Xf (tlToFloat t) (Sg z l):=by
 refine AB List.map_map ?_;refine AB List.map_map ?_;refine IJ (fun a h=>?_) hl;refine FX (q a h) fun j n p o=>?_;refine AF (Rm (s a h) c j) fun x k e=>?_;refine AF (Rm (b a h) d n) fun y r i=>?_;refine⟨⟨x,y,_,_,?_,?_,e,i,p⟩,?_,o⟩
 ·show Hz (B5 xb (F a))=_;refine AB k ?_;rfl
 ·show Hz (B5 yb (G a))=_;refine AB r ?_;rfl
 ·show(EL (B5 xb (F a))||_)=true;refine AB k ?_;rfl
end
section
variable {od wo:List Int} {z:List (Int×Int)}
theorem FQ {k wo:List Int} (h:wo.length=k.length):(k.zip wo).map Prod.fst=k:=List.map_fst_zip (Nat.le_of_eq h.symm)
theorem Hb {k wo:List Int} (h:wo.length=k.length):(k.zip wo).map Prod.snd=wo:=List.map_snd_zip (Nat.le_of_eq h)
theorem KG (c:Int) (e:Int→Int) (k:∀ p∈z,e p.1=if p.1=c then 1 else 0) (g:Int→Int):Sg (J4 c (z.map Prod.snd) (z.map Prod.fst)) g=Sg z fun p=>e p.1*g p.2:=by
 unfold J4
 induction z with
 |nil=>rfl
 |cons a l x=>
  refine AB (A4 ..) ?_;refine Ar (x fun p y=>k p (List.mem_cons_of_mem _ y)) ?_;refine AB (k a List.mem_cons_self) ?_;refine AB List.map_cons ?_;refine AB List.map_cons ?_;refine AB List.zip_cons_cons ?_;refine AB List.filter_cons ?_
  by_cases h:a.1=c
  ·refine AB (if_pos h) ?_;refine AB (if_pos (by simpa using h)) ?_;refine AB List.map_cons ?_;refine Eq.trans (A4 ..) ?_;refine AB (Int.one_mul ..) ?_;rfl
  ·refine AB (if_neg h) ?_;refine AB (if_neg (by simpa using h)) ?_;exact((congrArg (· + _) (Int.zero_mul _)).trans (Int.zero_add _)).symm
theorem UR (h:List Int) (f g:Int):DN h f*g=B3 h*(f*g) + -By h*((1-f)*g):=by rewrite [DN];refine Eq.trans (Int.sub_mul ..) ?_;refine AB (Int.mul_assoc ..) ?_;refine AB (Int.mul_assoc ..) ?_;refine Eq.trans Int.sub_eq_add_neg ?_;refine AB (Int.neg_mul ..) ?_;rfl
structure bc (od wo:List Int):Prop where
 c0:Sg (Av od) id=0
 cw:(Sg (od.zip wo) fun p=>(DN od p.1)*p.2)=Dt od wo
 cc:Sg (Av od) (fun c=>c*c)=By od*B3 od*od.length
 s0:Sg wo (sV wo)=0
 up:(Sg (od.zip wo) fun p=>p.1*p.2)=(HG od wo).sum
 lo:(Sg (od.zip wo) fun p=>(1-p.1)*p.2)=(HH od wo).sum
 us:(Sg (od.zip wo) fun p=>p.1*sV wo p.2)=Bg 1 od wo
 ls:(Sg (od.zip wo) fun p=>(1-p.1)*sV wo p.2) = -Bg 1 od wo
 cs:(Sg (od.zip wo) fun p=>(DN od p.1)*sV wo p.2)=od.length*Bg 1 od wo
theorem FR (y:wo.length=od.length) (t:∀ f∈od,f=0∨f=1):bc od wo:=by
 obtain⟨z,x⟩:∃ z,z=od.zip wo:=⟨_,rfl⟩
 have d:z.map Prod.fst=od:=x▸FQ y;have n:z.map Prod.snd=wo:=x▸Hb y;have r:∀ p∈z,p.1=0∨p.1=1:=fun p k=>t _ (d▸List.mem_map_of_mem k);have b:By od=Sg z fun p=>p.1:=by
  have:By od=Sg od id:=by unfold By Sg;refine AB (List.map_id ..) ?_;rfl
  refine Eq.trans this ?_;refine Ar d ?_;refine Eq.trans (DL ..) ?_;rfl
 have i:B3 od=Sg z fun p=>1-p.1:=by
  have:B3 od=Sg od fun f=>1-f:=rfl;refine Eq.trans this ?_;refine Ar d ?_;refine Eq.trans (DL ..) ?_;rfl
 have v:(od.length:Int)=By od+B3 od:=by
  refine AB b ?_;refine AB i ?_;refine Eq.trans ?_ (CW ..);refine AB (Ac (g:=fun m=>1) fun p m=>(Int.add_comm ..).trans (Int.sub_add_cancel 1 _)) ?_;refine Eq.trans ?_ (Bz ..).symm;refine Ar d ?_;refine AB (List.length_map ..) ?_;exact(Int.mul_one _).symm
 have E:∀ g:Int→Int,Sg (HG od wo) g=Sg z fun p=>p.1*g p.2:=fun g=>by
  have:=KG (z:=z) 1 (fun f=>f) (fun p k=>by rcases r p k with h | h<;>simp [h]) g;rwa [d,n]at this
 have j:∀ g:Int→Int,Sg (HH od wo) g=Sg z fun p=>(1-p.1)*g p.2:=fun g=>by
  have:=KG (z:=z) 0 (fun f=>1-f) (fun p k=>by rcases r p k with h | h<;>simp [h]) g;rwa [d,n]at this
 have e:∀ xs:List Int,Sg xs (fun a=>a)=xs.sum:=fun xs=>by unfold Sg;refine AB (List.map_id' xs) ?_;rfl
 have w:(Sg z fun p=>p.1*p.2)=(HG od wo).sum:=by refine Eq.trans ?_ (e ..);refine AB (E ..) ?_;rfl
 have lo:(Sg z fun p=>(1-p.1)*p.2)=(HH od wo).sum:=by refine Eq.trans ?_ (e ..);refine AB (j ..) ?_;rfl
 have o:∀ g:Int×Int→Int,(Sg z fun p=>(DN od p.1)*g p)=B3 od*(Sg z fun p=>p.1*g p)-By od*Sg z fun p=>(1-p.1)*g p:=fun g=>by
  refine AB Int.sub_eq_add_neg ?_;refine Ar (Int.neg_mul ..) ?_;refine Eq.trans ?_ (KC ..);exact Ac fun p m=>UR _ _ _
 have A:Sg wo (sV wo)=0:=by
  have s:=UK wo;rwa [Dw]at s
 have u:(Sg z fun q=>q.1*sV wo q.2)=Bg 1 od wo:=by
  have s:(Sg z fun q=>q.1*sV wo q.2)=Sg z fun q=>Sg z fun p=>q.1*p.1*sg p.2 q.2+q.1*((1-p.1)*sg p.2 q.2):=Ac fun q m=>by
   unfold sV;refine Ar n ?_;refine AB (DL ..) ?_;refine Ar (Bf ..) ?_;exact Ac fun p m=>by grind
  have H:(Sg z fun q=>Sg z fun p=>q.1*p.1*sg p.2 q.2)=0:=by
   have D:=Dw z z fun q p=>q.1*p.1*sg p.2 q.2;have K:(Sg z fun p=>Sg z fun q=>q.1*p.1*sg p.2 q.2) = -Sg z fun p=>Sg z fun q=>p.1*q.1*sg q.2 p.2:=by
    refine Eq.trans ?_ (Fq ..);exact Ac fun p m=>by refine Eq.trans ?_ (Fq ..);exact Ac fun q m=>by refine AB (Gw p.2 q.2) ?_;grind
   exact W7 (D.trans K)
  have J:(Sg z fun q=>Sg z fun p=>q.1*((1-p.1)*sg p.2 q.2))=Bg 1 od wo:=by
   unfold Bg;refine AB (Int.one_mul ..) ?_;refine AB (UJ ..) ?_;refine AB (j ..) ?_;refine Eq.trans (Dw ..) ?_;refine Ac fun p m=>?_;refine AB (E ..) ?_;refine Eq.trans ?_ (Bf ..);refine Ac fun q m=>?_;show _=(1-p.1)*(q.1*sg p.2 q.2);grind
  refine Eq.trans s ?_;refine Eq.trans (Ac fun q m=>CW _ _ _) ?_;refine Eq.trans (CW ..) ?_;refine AB H ?_;refine AB J ?_;refine Eq.trans (Int.zero_add ..) ?_;rfl
 have C:(Sg z fun p=>(1-p.1)*sV wo p.2) = -Bg 1 od wo:=by
  refine Ar u ?_;have:(Sg z fun p=>(1-p.1)*sV wo p.2)=(Sg z fun p=>sV wo p.2)+Sg z fun p=>-(p.1*sV wo p.2):=by
   refine Eq.trans ?_ (CW ..);exact Ac fun p m=>by grind
  refine Eq.trans this ?_;refine AB (by rw [←A,←DL z Prod.snd (sV wo),n]:(Sg z fun p=>sV wo p.2)=0) ?_;refine AB (Fq ..) ?_;exact Int.zero_add _
 have B:∀ g:Int→Int,Sg (Av od) g=Sg z fun p=>g (DN od p.1):=fun g=>by
  unfold Av;refine Eq.trans (DL ..) ?_;generalize DN od=c;refine Ar d ?_;refine Eq.trans (DL ..) ?_;rfl
 refine⟨?_,x▸?_,?_,A,x▸w,x▸lo,x▸u,x▸C,x▸?_⟩
 ·refine Eq.trans (B ..) ?_;have:=o fun m=>1;simp only [Int.mul_one]at this;show(Sg z fun p=>DN od p.1)=0;refine Eq.trans this ?_;refine Ar b ?_;refine Ar i ?_;refine AB (Int.mul_comm ..) ?_;exact Int.sub_self _
 ·refine Eq.trans (o ..) ?_;refine AB w ?_;refine AB lo ?_;rfl
 ·refine Eq.trans (B ..) ?_;refine Eq.trans (o ..) ?_;have q1:(Sg z fun p=>p.1*(DN od p.1))=B3 od*By od:=by
   refine AB b ?_;refine Eq.trans ?_ (Bf ..);exact Ac fun p k=>by unfold DN;exact Zp (r p k)
  have I:(Sg z fun p=>(1-p.1)*(DN od p.1)) = -By od*B3 od:=by
   refine AB i ?_;refine Eq.trans ?_ (Bf ..);exact Ac fun p k=>by unfold DN;exact Zq (r p k)
  refine AB q1 ?_;refine AB I ?_;refine AB v ?_;grind
 ·refine Eq.trans (o ..) ?_;refine AB u ?_;refine AB C ?_;refine AB v ?_;grind
end
theorem HE.app {a b c d:List FV} (x:HE a b) (e:HE c d):HE (a++c) (b++d):=by
 induction x with
 |nil=>exact e
 |cons h _ k=>exact .cons h k
theorem HE.one {g:FV} (h:Tz f g):HE [f] [g]:=.cons h .nil
theorem HE.two {g k e:FV} (h:Tz f g) (h':Tz k e):HE [f,k] [g,e]:=.cons h (.one h')
theorem Nk {Q:Type} {z:List Q} {C:Q→Int} {G:Q→FV} {g:Q→Int} {m S q a b a' b' d e:Int} (B:2≤z.length) (u:z.length≤6) (o:∀ x∈z,(C x).natAbs≤6) (F:∀ x∈z,Nf (G x) (g x)∧(g x).natAbs≤2^15) (D:m.natAbs≤2^15)
  (hc:Sg z C=0) (hg:Sg z g=m*z.length) (hS:(Sg z fun x=>C x*(g x-m))=S) (X:(Sg z fun x=>C x*C x)=q) (W:0<b') (he:0<e) (ha:Sm a) (hd:Sm d) (e1:q≠0→0<b∧S*b=a*(16*q)) (e2:16*a'=b'*m) (e3:S*e=d*(16*((z.length:Int)-1))) :
  ∃ Y cv,Dm w (n+12) (.ref 440) [.list (z.map fun x=>.int (C x)),.list (z.map G)] [] [] (.ret (.list Y))∧Dm w (n+12) (.ref 343) [.list (z.map fun x=>.int (C x)),.list (z.map G)] [] [] (.ret (.fv (.AS cv)))∧Y.length≤10∧
   HE Y (if q=0 then [.none,.none]else [.AS (qf a b),.AS (qf a' b')])∧Float64.cmp cv (qf d e)=some .eq:=by
 have y:∀ x∈z,Nf (.int (C x)) (16*C x)∧(16*C x).natAbs≤2^20:=fun x k=>⟨Gx (bd (o x k)),bd (AO (A:=16) (by constructor) (o x k))⟩
 have t:∀ x∈z,Nf (G x) (g x)∧(g x).natAbs≤2^20:=fun x k=>⟨(F x k).1,bd (F x k).2⟩
 have c:z.length≤100:=AJ u (Bh rfl);have r:0<z.length:=Nat.lt_of_lt_of_le Nat.zero_lt_two B;refine AF (GU (m:=0) y c r (Ay (Bh rfl)) (by refine Eq.trans (Bf ..) ?_;refine AB hc ?_;refine Eq.trans (Int.mul_zero ..) ?_;refine Eq.trans ?_ (Int.zero_mul ..).symm;rfl)) fun xb J R=>?_;refine AF (GU (m:=m) t c r (Ay (bd D)) hg) fun yb E xy=>?_;have p:∀ {i j:Int},i.natAbs≤6→j.natAbs≤2^16→(i*j).natAbs≤2^20:=fun h1 B=>AJ (AO h1 B) (by decide);refine AY (GX (l:=fun x=>C x*(g x-m)) (fun x k=>(y x k).1) (fun x k=>(t x k).1) R xy (fun x k=>(EX (by refine AB (Int.sub_zero ..) ?_;exact Ay (bd (y x k).2)) (Ay (bd (FK (F x k).2 D))) (by refine AB (Int.sub_zero ..) ?_;refine Eq.trans (Int.mul_assoc ..) ?_;rfl) (p (o x k) (FK (F x k).2 D)))) c) fun t1 s1 s2 s3=>?_;refine AY (GX (l:=fun x=>16*(C x*C x)) (fun x k=>(y x k).1) (fun x k=>(y x k).1) R R (fun x k=>have s:=Ay (bd (y x k).2);(EX (by refine AB (Int.sub_zero ..) ?_;exact s) (by refine AB (Int.sub_zero ..) ?_;exact s) (by refine AB (Int.sub_zero ..) ?_;refine Eq.trans (Int.mul_assoc ..) ?_;refine AB (Int.mul_left_comm (C x) ..) ?_;rfl) (bd (AO (A:=16) (by constructor) (AO (o x k) (o x k)))))) c) fun t2 s4 H s6=>?_;rw [hS]at s2 s3;replace H:=(Bf ..)▸H;replace H:=X▸H;have I:S.natAbs≤2^27:=by
  refine Ar hS ?_;refine AJ (Cr _ (2^20) fun v P=>?_) ?_
  ·refine AF (List.mem_map.mp P) fun x k L=>?_;obtain rfl:=L;exact p (o x k) (FK (F x k).2 D)
  ·refine AB (List.length_map ..) ?_;exact AJ (Nat.mul_le_mul_right _ u) (by decide)
 have T:q.natAbs≤216:=by
  refine Ar X ?_;refine AJ (Cr _ 36 fun v P=>?_) ?_
  ·refine AF (List.mem_map.mp P) fun x k N=>?_;clear P;obtain rfl:=N;exact AO (o x k) (o x k)
  ·refine AB (List.length_map ..) ?_;exact Nat.mul_le_mul_right _ u
 have V:0≤q:=by
  refine Ar X ?_;exact Gv fun x _=>RR _
 have xS:Xf (CO t1) S:=by refine AB s2 ?_;exact Dg (Ay (bd I))
 have U:Xf (OM t1) S:=by
  have:=EV xS (EU false) (by refine AB (Int.add_zero ..) ?_;exact Ay (bd I));rw [Int.add_zero]at this;exact this
 have xq:Xf (CO t2) (16*q):=by refine AB H ?_;exact Dg (Ay (bd (AO (A:=16) (by constructor) T)))
 have nx:∀ f∈z.map fun x=>FV.int (C x),F9 f:=fun f O=>by
  refine AF (List.mem_map.mp O) fun x k K=>?_;obtain rfl:=K;exact(y x k).1.1
 have ny:∀ f∈z.map G,F9 f:=fun f O=>by
  refine AF (List.mem_map.mp O) fun x k M=>?_;clear O;obtain rfl:=M;exact(t x k).1.1
 have hl:(z.map fun x=>FV.int (C x)).length=(z.map G).length:=by refine Eq.trans (List.length_map ..) ?_;refine Eq.trans ?_ (List.length_map ..).symm;rfl
 refine⟨_,_,RC (n:=n+6) hl (by refine AB (List.length_map ..) ?_;exact B) (by refine AB (List.length_map ..) ?_;exact AJ u (Bh rfl)) nx ny J E s1 s4,
  Vk (n:=n+10) hl (by refine AB (List.length_map ..) ?_;exact B) (by refine AB (List.length_map ..) ?_;exact AJ u (Bh rfl)) nx ny (by unfold Vj;refine AB J ?_;refine AB E ?_;dsimp only;refine AB s1 ?_;rfl),?_,?_,?_⟩
 ·unfold NQ;split<;>exact List.getElem?_eq_none_iff.mp rfl
 ·unfold NQ;refine AB (Gu xq) ?_
  by_cases h:q=0
  ·refine AB (if_pos (by simp [h])) ?_;refine AB (if_pos h) ?_;exact .two trivial trivial
  ·refine AB (if_neg (by simp;exact h)) ?_;refine AB (if_neg h) ?_;refine Bt (FP U xq (Int.mul_pos (by constructor) (Lw V h)) (e1 h).1 (e1 h).2 ha) fun d1 d2=>?_;refine .two d1 ?_;have Z:=EW xy (UH d2 R) (by refine AB (Int.sub_zero ..) ?_;exact Ay (bd D));rw [Int.sub_zero]at Z;exact Rc Z (Rd W e2 (Ay (bd D)))
 ·refine AB (List.length_map ..) ?_;exact(FP xS (E5 (i:=(z.length:Int)-1) (Nat.lt_of_lt_of_le (R6 r) (AJ u (by decide)))) (Int.mul_pos (by decide) (R5 B)) he e3 hd).1
section
variable {w:Wd} {n:Nat}
theorem Ro {xs:List Int} {b:Int} (i:(xs.length:Int)=b) (y:xs.length≤6) (x:∀ v∈xs,v.natAbs≤1000):∃ f,D0 w (n+10) (.ref 329) [.list (A5 xs)] [] [] f∧Tz f (if b=0 then .none else .AS (qf xs.sum b)):=by
 by_cases h:b=0
 ·refine AB (if_pos h) ?_;obtain rfl:xs=[]:=List.eq_nil_of_length_eq_zero (Int.ofNat.inj (i.trans h));exact(AQ .none ⟨_,IV,rfl,fun c e=>by cases e;rfl⟩ trivial)
 ·refine AB (if_neg h) ?_;have z:0<xs.length:=Nat.pos_of_ne_zero fun q=>h (i.symm.trans (congrArg Nat.cast q));have k:Sg xs (fun a=>16*a)=16*xs.sum:=by refine Eq.trans (Bf ..) ?_;unfold Sg;refine AB (List.map_id' xs) ?_;rfl
  refine AF (Rn (F:=FV.int) (f:=fun a=>16*a) (z:=xs) (a:=xs.sum) (b:=b) (fun v g=>⟨Gx (bd (x v g)),bd (AO (A:=16) (by constructor) (x v g))⟩) (AJ y (Bh rfl)) z (i▸Int.ofNat_lt.mpr z) (Ay (AJ (Cr xs 1000 x) (AJ (Nat.mul_le_mul_right _ y) (Bh rfl)))) (by refine AB k ?_;refine AB i ?_;grind)) fun v j d=>?_;exact(AQ (.AS v) ⟨_,OG (n:=n+9) (by refine AB (BL ..) ?_;exact z) (by refine AB (BL ..) ?_;exact AJ y (Bh rfl)) j,rfl,fun c e=>by cases e⟩ d)
theorem Mc {ys:List Int} {g:FV} (q:ys.sum=k) (t:ys.length≤6) (l:∀ v∈ys,v.natAbs≤1000) (p:Hl w (n+9) (.builtin "math.sumprod") [.list xs,.list (A5 ys)] [] [] (.fv g))
  (h:k≠0→∀ s,Xf s (16*k)→∃ v,D2 w .Div g (.AS s) (.AS v)∧Float64.cmp v y=some .eq):∃ f,D0 w (n+10) (.ref 329) [.list xs,.list (A5 ys)] [] [] f∧Tz f (if k=0 then .none else .AS y):=by
 refine AF (Mb (F:=FV.int) (kf:=fun a=>16*a) (xs:=ys) (fun v j=>by
  refine JU (Gx (bd (l v j))) fun Z x r Z u=>?_;exact(Aj x r u (bd (AO (A:=16) (by constructor) (l v j))))) (AJ t (Bh rfl))) fun z m i=>?_
 have d:(ys.map fun a=>16*a).sum=16*k:=by
  have:=Bf ys 16 fun a=>a;unfold Sg at this;refine Eq.trans this ?_;refine AB (List.map_id' ys) ?_;refine AB q ?_;rfl
 rw [d]at i
 by_cases b:k=0
 ·refine AB (if_pos b) ?_;exact(AQ .none ⟨_,I9 (n:=n+8) m p (.inl ⟨by refine Eq.trans (Gu i) ?_;refine AB b ?_;rfl,rfl⟩),rfl,fun c e=>by obtain rfl:=(Internal.Out.exc.inj e);rfl⟩ trivial)
 ·refine AB (if_neg b) ?_;refine AF (h b _ i) fun v o c=>?_;exact(AQ (.AS v) ⟨_,I9 (n:=n+8) m p (.inr ⟨Gu i▸beq_false_of_ne (Int.mul_ne_zero (by decide) b),_,o,rfl⟩),rfl,fun c e=>by injection e⟩ c)
end
section
variable {w:Wd} {n:Nat} {od wo:List Int}
theorem Rp {h:Type} (z:List h) (f g:h→Int):Pw (z.map f) (z.map g)=Sg z fun p=>g p*f p:=by
 induction z with
 |nil=>rfl
 |cons a l k=>refine AB (A4 ..) ?_;refine AB List.map_cons ?_;refine AB List.map_cons ?_;refine Eq.trans (show Pw (f a::l.map f) (g a::l.map g)=f a*g a+Pw (l.map f) (l.map g)from rfl) ?_;refine AB k ?_;refine AB (Int.mul_comm ..) ?_;rfl
theorem Rq {v a b:Int} {s:UInt64} (g:Xf s (16*k)) (y:0<k) (x:v.natAbs≤2^20) (e:v=a) (c:k=b):∃ r,D2 w .Div (.int v) (.AS s) (.AS r)∧Float64.cmp r (qf a b)=some .eq:=by
 subst e c;have h:0<16*k:=Int.mul_pos (by decide) y;refine⟨_,PW (VD g (Int.ne_of_gt h)) (CZ (Nat.lt_of_le_of_lt x (by decide))),?_⟩
 exact(FP (E5 (Nat.lt_of_le_of_lt x (by decide))) g h y (by refine AB (Int.mul_comm 16 ..) ?_;refine Eq.trans (Int.mul_assoc ..) ?_;rfl) (Ay (bd x))).1
theorem B1.Hc (K:B1 od wo):A5 (Av od)=(od.zip wo).map fun p=>FV.int (DN od p.1):=by
 have h:=FQ K.len;unfold A5 Av;generalize DN od=c;obtain⟨z,k⟩:∃ z,z=od.zip wo:=⟨_,rfl⟩
 rw [←k]at h ⊢;refine Ar h ?_;refine Eq.trans List.map_map ?_;refine Eq.trans List.map_map ?_;rfl
theorem B1.KH (K:B1 od wo) {e:Type} (F:Int→e):wo.map F=(od.zip wo).map fun p=>F p.2:=by
 have h:=Hb K.len;obtain⟨z,k⟩:∃ z,z=od.zip wo:=⟨_,rfl⟩
 rw [←k]at h ⊢;refine Ar h ?_;refine Eq.trans List.map_map ?_;rfl
theorem B1.Gy (K:B1 od wo) {e:Type} (F:Int→e):od.map F=(od.zip wo).map fun p=>F p.1:=by
 have h:=FQ K.len;obtain⟨z,k⟩:∃ z,z=od.zip wo:=⟨_,rfl⟩
 rw [←k]at h ⊢;refine Ar h ?_;refine Eq.trans List.map_map ?_;rfl
theorem B1.Rr (K:B1 od wo):(od.zip wo).length=od.length:=by refine Eq.trans List.length_zip ?_;refine AB K.len ?_;refine Eq.trans (Nat.min_self ..) ?_;rfl
theorem B1.z1 (K:B1 od wo) {p:Int×Int} (k:p∈od.zip wo):(p.1=0∨p.1=1)∧p.2.natAbs≤1000∧p.2∈wo∧(DN od p.1).natAbs≤6:=by
 have h:=List.of_mem_zip (a:=p.1) (b:=p.2) k;exact(EX (K.bit _ h.1) (K.wb _ h.2) h.2 (K.codes _ (List.mem_map_of_mem h.1)))
theorem B1.Nl (K:B1 od wo) (f:Int→Int):Sg wo f=Sg (od.zip wo) fun p=>f p.2:=by unfold Sg;refine AB (K.KH ..) ?_;rfl
theorem B1.G0 (K:B1 od wo) (f:Int→Int):Sg (Av od) f=Sg (od.zip wo) fun p=>f (DN od p.1):=by
 have h:=FQ K.len;refine Eq.trans (DL ..) ?_;generalize DN od=c;obtain⟨z,k⟩:∃ z,z=od.zip wo:=⟨_,rfl⟩
 rw [←k]at h ⊢;refine Ar h ?_;refine Eq.trans (DL ..) ?_;rfl
theorem Rt (K:B1 od wo):((HG od wo).length:Int)=By od∧((HH od wo).length:Int)=B3 od:=by
 have x:=KG (z:=od.zip wo) 1 (fun f=>f) (fun p y=>by rcases(K.z1 y).1 with h | h<;>simp [h]) fun w=>1;have hl:=KG (z:=od.zip wo) 0 (fun f=>1-f) (fun p y=>by rcases(K.z1 y).1 with h | h<;>simp [h]) fun w=>1;rw [(FQ K.len),(Hb K.len),Bz]at x hl;simp only [Int.mul_one]at x hl;have e:By od=Sg (od.zip wo) fun p=>p.1:=by
  have:=K.Gy fun f=>f;replace this:=(List.map_id' ..).symm.trans this;unfold By Sg;refine Ar this ?_;rfl
 have k:B3 od=Sg (od.zip wo) fun p=>1-p.1:=by
  unfold B3 B7 Sg;refine AB (K.Gy ..) ?_;rfl
 exact⟨x.trans e.symm,hl.trans k.symm⟩
theorem JQ (K:B1 od wo):∀ v∈B7 od,v=0∨v=1:=fun v e=>by
 refine AF (List.mem_map.mp e) fun f x k=>?_;clear e;obtain rfl:=k;rcases K.bit f x with h | h<;>refine AB h ?_<;>decide
theorem VE {a b:Int} (h:b≠0):a*b=0↔a=0:=⟨fun e=>(Int.mul_eq_zero.mp e).resolve_right h,fun e=>by refine AB e ?_;refine Eq.trans (Int.zero_mul ..) ?_;rfl⟩
theorem US (K:B1 od wo) {M:Int} (W:wo.sum=od.length*M):∃ o j Z Q R T,RX w n od wo o j Z Q R T:=by
 have S:=FR K.len K.bit;have b:=K.Ie;have b1:=b.Y2;have b3:=b.Y3;have b9:=b.le;have i:=K.lo;have l:=K.hi;have x:=K.len;have F:=K.Rr;refine Bt (Rt K) fun l1 l2=>?_;have U:M.natAbs≤1000:=by
  have:=congrArg Int.natAbs W;replace this:=this.trans (Int.natAbs_mul ..);rewrite [Int.natAbs_natCast]at this;have h2:=Cr wo 1000 K.wb;rw [this,K.len]at h2;exact Nat.le_of_mul_le_mul_left h2 (Nat.le_of_lt i)
 have D:(By od*B3 od).natAbs≤36:=b.pq;have t:(0:Int)<od.length:=R8 (Nat.lt_succ_of_le (Nat.le_add_left 0 1)) i;have B:(Sg (od.zip wo) fun p=>DN od p.1)=0:=by refine Ar (K.G0 fun c=>c) ?_;exact S.c0
 have u:∃ o j,Dm w (n+12) (.ref 440) [.list (A5 (Av od)),.list (A5 wo)] [] [] (.ret (.list o))∧Dm w (n+12) (.ref 343) [.list (A5 (Av od)),.list (A5 wo)] [] [] (.ret (.fv (.AS j)))∧o.length≤10∧
   HE o (if By od*B3 od=0 then [.none,.none]else [.AS (qf (Dt od wo) (By od*B3 od*od.length)),.AS (qf wo.sum od.length)])∧Float64.cmp j (qf (Dt od wo) ((od.length:Int)-1))=some .eq:=by
  refine AB K.Hc ?_;refine AB (show A5 wo=(od.zip wo).map fun p=>FV.int p.2 from K.KH FV.int) ?_;have O:(Sg (od.zip wo) fun p=>(DN od p.1)*(16*p.2-16*M))=16*Dt od wo:=by
   have:(Sg (od.zip wo) fun p=>(DN od p.1)*(16*p.2-16*M))=Sg (od.zip wo) fun p=>16*((DN od p.1)*p.2) + -16*M*(DN od p.1):=Ac fun p _=>by grind
   refine Eq.trans this ?_;refine Eq.trans (KC ..) ?_;refine AB S.cw ?_;refine AB B ?_;refine AB (Int.mul_zero ..) ?_;refine Eq.trans (Int.add_zero ..) ?_;rfl
  obtain⟨o,j,V,N,X,c4,P⟩:=Nk (w:=w) (n:=n) (z:=od.zip wo) (C:=fun p=>DN od p.1) (G:=fun p=>FV.int p.2) (g:=fun p=>16*p.2) (m:=16*M) (S:=16*Dt od wo) (q:=By od*B3 od*od.length) (a:=Dt od wo) (b:=By od*B3 od*od.length) (a':=wo.sum) (b':=od.length) (d:=Dt od wo) (e:=(od.length:Int)-1) (by refine AB F ?_;exact i) (by refine AB F ?_;exact l) (fun p D=>(K.z1 D).2.2.2)
   (fun p D=>⟨Gx (bd (K.z1 D).2.1),bd (AO (A:=16) (by decide) (K.z1 D).2.1)⟩) (bd (AO (A:=16) (by decide) U)) B (by refine Eq.trans (Bf ..) ?_;refine AB F ?_;refine Ar (K.Nl fun v=>v) ?_;unfold Sg;refine AB (List.map_id' wo) ?_;refine AB W ?_;grind) O (by refine Eq.trans ?_ S.cc;exact(K.G0 fun c=>c*c).symm) t (R5 i) (Ay (bd b9)) (Ay (bd b9))
   (fun h=>⟨Lw (Int.mul_nonneg (Int.mul_nonneg b1 b3) (Int.le_of_lt t)) h,by refine AB (Int.mul_comm 16 ..) ?_;refine Eq.trans (Int.mul_assoc ..) ?_;rfl⟩) (by refine AB W ?_;refine Eq.trans (Int.mul_left_comm ..) ?_;rfl) (by refine AB F ?_;refine AB (Int.mul_comm 16 ..) ?_;refine Eq.trans (Int.mul_assoc ..) ?_;rfl)
  refine(Hf o j V N X ?_ P)
  simpa only [VE (Int.ne_of_gt t)]using c4
 refine Ej (u) fun o j V N X c4 P=>?_;refine AF (Ro (w:=w) (n:=n) l1 b.RS fun v r=>K.wb v (HZ r)) fun Z a1 q1=>?_;refine AF (Ro (w:=w) (n:=n) l2 b.NY fun v r=>K.wb v (HZ r)) fun R a3 J=>?_;have e2:=Hb K.len;have d1:Pw wo od=(HG od wo).sum:=by
  refine Eq.trans ?_ S.up;refine Eq.trans ?_ (Rp ..);refine AB (FQ K.len) ?_;refine AB e2 ?_;rfl
 have d2:Pw wo (B7 od)=(HH od wo).sum:=by
  refine Eq.trans ?_ S.lo;refine Eq.trans ?_ (Rp ..);refine AB e2 ?_;unfold B7;refine AB (K.Gy ..) ?_;rfl
 have E:∀ ys:List Int,wo.length=ys.length→(∀ v∈ys,v=0∨v=1)→Hl w (n+9) (.builtin "math.sumprod") [.list (A5 wo),.list (A5 ys)] [] [] (.fv (.int (Pw wo ys))):=fun ys hl hy=>
  OD (n:=n+8) hl (fun a ha=>bd (K.wb a ha)) (fun c hc=>by rcases hy c hc with h | h<;>refine AB h ?_<;>decide) (by exact AJ (AJ (Nat.le_of_eq x) l) (DY rfl))
 refine AF (Mc (w:=w) (n:=n) (ys:=od) (k:=By od) (y:=qf (HG od wo).sum (By od)) rfl l (fun v r=>by rcases K.bit v r with h | h<;>refine AB h ?_<;>decide) (E od x K.bit) fun Y s L=>Rq L (Lw b1 Y) (by refine AB d1 ?_;exact bd b.up) d1 rfl) fun Q a2 I=>?_;refine AF (Mc (w:=w) (n:=n) (ys:=B7 od) (k:=B3 od) (y:=qf (HH od wo).sum (B3 od)) rfl (by simp [B7];exact l) (fun v r=>by rcases JQ K v r with h | h<;>refine AB h ?_<;>decide) (E (B7 od) (by simp [B7];exact x) (JQ K)) fun Y s L=>Rq L (Lw b3 Y) (by refine AB d2 ?_;exact bd b.lo) d2 rfl) fun T a4 H=>?_;refine⟨o,j,Z,Q,R,T,V,N,a1,a2,a3,a4,?_,X⟩
 refine((c4.app (.one (f:=.AS j) (g:=.AS _) P)).app ?_).app ?_
 ·by_cases h:By od=0
  ·rw [if_pos h]at q1 I ⊢;exact .two q1 I
  ·rw [if_neg h]at q1 I ⊢;exact .two q1 I
 ·by_cases h:B3 od=0
  ·rw [if_pos h]at J H ⊢;exact .two J H
  ·rw [if_neg h]at J H ⊢;exact .two J H
end
theorem KI (wo:List Int) (x:Int):(sV wo x).natAbs≤wo.length:=by
 have:=Cr (wo.map fun u=>sg u x) 1 fun v y=>by
  refine AF (List.mem_map.mp y) fun u z k=>?_;obtain rfl:=k;show(sg u x).natAbs≤1;refine Or.elim (Int.lt_trichotomy u x) (fun h=>?_) (fun e=>Or.elim e (fun h=>?_) (fun h=>?_))
  ·refine AB (Dx h) ?_;constructor
  ·refine AB h ?_;refine AB (Cb ..) ?_;exact Bh rfl
  ·refine AB (E7 h) ?_;constructor
 rw [List.length_map,Nat.mul_one]at this;exact this
theorem IK (t:Int) (h wo:List Int):Bg t h wo=t*Bg 1 h wo:=by unfold Bg;refine AB (Int.one_mul ..) ?_;rfl
noncomputable def IL (od wo:List Int) (hd t x:Int):Int:=8*(A7 od hd+t*sV wo x)
noncomputable def Nn (od wo:List Int) (hd t:Int):List FV:=wo.map fun x=>.AS (Ck (IL od wo hd t x))
theorem EG {h:List Int} (K:B1 h wo) (hd:Int):(A7 h hd).natAbs≤11:=by
 exact Nc hd K.lo K.hi
theorem IM {h:List Int} (K:B1 h wo) (hd:Int) {t:Int} (k:t=1∨t = -1) (x:Int):(IL h wo hd t x).natAbs≤136:=
 AO (A:=8) (B:=17) (by constructor) (GQ (A:=11) (B:=6) (EG K hd) (AO (A:=1) (B:=6) (by rcases k with rfl | rfl<;>constructor) (AJ (KI wo x) (K.len▸K.hi))))
section
variable {w:Wd} {n:Nat} {od wo:List Int} {hd t:Int}
theorem KJ (h:t=1∨t = -1):t.natAbs≤1:=by rcases h with rfl | rfl<;>decide
theorem Md (x:Int):IL od wo hd t x=8*A7 od hd*1+8*t*sV wo x:=by rewrite [IL];refine AB (Int.mul_one ..) ?_;refine Eq.trans (Int.mul_add ..) ?_;refine AB (Int.mul_assoc 8 t ..) ?_;rfl
theorem KL (x:Int):IL od wo hd t x-8*A7 od hd=8*t*sV wo x:=by refine AB (Md ..) ?_;refine AB (Int.mul_one ..) ?_;refine AB (Int.add_comm ..) ?_;refine Eq.trans (Int.add_sub_cancel ..) ?_;rfl
theorem Np (K:B1 od wo):(Sg (od.zip wo) fun p=>IL od wo hd t p.2)=8*A7 od hd*(od.zip wo).length:=by
 refine Eq.trans (Ac fun p z=>Md p.2) ?_;refine Eq.trans (KC ..) ?_;refine Ar (K.Nl (sV wo)) ?_;refine AB ((FR K.len K.bit).s0) ?_;refine AB (Bz ..) ?_;refine AB (Int.mul_zero ..) ?_;refine Eq.trans (Int.add_zero ..) ?_;refine AB (Int.mul_one ..) ?_;rfl
theorem Ru (K:B1 od wo) (h:t=1∨t = -1) (x:Int):Nf (.AS (Ck (IL od wo hd t x))) (IL od wo hd t x):=Wa (Ay (bd (IM K hd h x)))
theorem Nq (K:B1 od wo):Nn od wo hd t=(od.zip wo).map fun p=>FV.AS (Ck (IL od wo hd t p.2)):=K.KH _
theorem VF (K:B1 od wo):(Sg (od.zip wo) fun p=>DN od p.1)=0:=by refine Ar (K.G0 fun c=>c) ?_;exact(FR K.len K.bit).c0
theorem UT (K:B1 od wo) (c:t=1∨t = -1):Cp w (decide (t<0)) wo (.int (hd.fmod 7-3-1)) (Nn od wo hd t):=by
 have a:=Int.fmod_nonneg_of_pos hd (show(0:Int)<7 by constructor);have k:=Int.fmod_lt_of_pos hd (show(0:Int)<7 by constructor);have:=K.lo;have:=K.hi;have hl:=K.len;have h:=Lv (w:=w) (b:=decide (t<0)) (ns:=wo) (iv0:=.int (hd.fmod 7-3-1)) (k0:=16*(hd.fmod 7-3-1)) (AJ (Nat.le_of_succ_le K.lo) (Nat.le_of_eq hl.symm)) (le_of_eq_of_le hl this) (ZY a k) (.inl ⟨_,rfl,rfl⟩);have e:(wo.map fun x=>FV.AS (Ck (16*(hd.fmod 7-3-1)+8*(wo.length+1+(if decide (t<0)=true then -sV wo x else sV wo x)))))=Nn od wo hd t:=by
  unfold Nn;refine List.map_congr_left fun x z=>?_
  congr 2
  unfold IL A7;refine Or.elim c (fun g=>?_) (fun y=>?_)
  ·refine AB g ?_;refine AB (if_neg (by decide)) ?_;exact hl▸W8 (Int.one_mul _)
  ·refine AB y ?_;refine AB (if_pos (by decide)) ?_;exact hl▸W8 ((Int.neg_mul ..).trans (congrArg _ (Int.one_mul _)))
 rwa [e]at h
theorem VG {ys:List Int} (e:Int→Int) (K:B1 od wo) (N:t=1∨t = -1) (C:ys=od.map e) (M:∀ f∈od,e f=0∨e f=1) {s':Int} (Q:ys.sum=k) (q:(Sg (od.zip wo) fun p=>e p.1*sV wo p.2)=s') :
  ∃ f,D0 w (n+10) (.ref 329) [.list (Nn od wo hd t),.list (A5 ys)] [] [] f∧Tz f (if k=0 then .none else .AS (qf (k*A7 od hd+t*s') (2*k))):=by
 have V:=K.lo;have c:=K.hi;have z:=K.len;have S:=K.Rr;have R:ys.length=od.length:=Eq.symm (len_of_map_eq (id (Eq.symm C)));have hb:∀ v∈ys,v.natAbs≤1:=fun v g=>by
  rw [C]at g;refine AF (List.mem_map.mp g) fun f L H=>?_;obtain rfl:=H;rcases M f L with h | h<;>refine AB h ?_<;>exact Bh rfl
 have j:∀ p∈od.zip wo,(e p.1).natAbs≤1:=fun p m=>by rcases M p.1 (List.of_mem_zip (a:=p.1) (b:=p.2) m).1 with h | h<;>refine AB h ?_<;>exact Bh rfl
 have u:(Sg (od.zip wo) fun p=>e p.1)=k:=by
  refine Eq.trans ?_ Q;refine AB C ?_;refine AB (K.Gy ..) ?_;rfl
 have P:=Nq (hd:=hd) (t:=t) K;have O:A5 ys=(od.zip wo).map fun p=>FV.int (e p.1):=by
  have:=K.Gy fun f=>FV.int (e f);refine Eq.trans ?_ this;refine AB C ?_;refine Eq.trans List.map_map ?_;rfl
 refine AY (IJ (F:=fun p:Int×Int=>FV.AS (Ck (IL od wo hd t p.2))) (G:=fun p=>FV.int (e p.1)) (lf:=fun p=>IL od wo hd t p.2*e p.1) (xs:=od.zip wo) (fun p m=>by
  refine JU (Ru (hd:=hd) K N p.2) fun _ x _ a2 X=>?_;refine JU (Gx (bd (j p m))) fun _ y _ Z Y=>?_;exact⟨⟨x,y,_,_,a2,Z,X,Y,Int.mul_left_comm _ _ _⟩,rfl,bd (AO (IM K hd N p.2) (j p m))⟩) (by refine AB S ?_;exact AJ c (Bh rfl))) fun r E U e3=>?_
 replace E:=P.symm▸E;replace E:=O.symm▸E;have l:CO r=Ck (Sg (od.zip wo) fun p=>IL od wo hd t p.2*e p.1):=U;have hS:(Sg (od.zip wo) fun p=>IL od wo hd t p.2*e p.1)=8*(k*A7 od hd+t*s'):=by
  have:(Sg (od.zip wo) fun p=>IL od wo hd t p.2*e p.1)=Sg (od.zip wo) fun p=>8*A7 od hd*e p.1+8*t*(e p.1*sV wo p.2):=Ac fun p _=>by refine AB (Md ..) ?_;refine AB (Int.mul_one ..) ?_;refine Eq.trans (Int.add_mul ..) ?_;refine AB (Int.mul_assoc (8*t) ..) ?_;refine AB (Int.mul_comm (sV wo p.2) ..) ?_;rfl
  refine Eq.trans this ?_;refine Eq.trans (KC ..) ?_;refine AB u ?_;refine AB q ?_;refine AB (Int.mul_assoc ..) ?_;refine AB (Int.mul_assoc 8 t ..) ?_;refine Eq.trans (Int.mul_add ..).symm ?_;refine AB (Int.mul_comm k ..) ?_;rfl
 replace l:=hS▸l;have d:0≤k∧k≤6:=by
  have T:=Lr ys fun v g=>by
   rw [C]at g;refine AF (List.mem_map.mp g) fun f L D=>?_;obtain rfl:=D;exact M f L
  replace T:=Q▸T;exact⟨T.1,Int.le_trans T.2.1 (Int.ofNat_le.mpr (le_of_eq_of_le R c))⟩
 have o:(k*A7 od hd+t*s').natAbs≤66+36:=by
  refine GQ (AO (A:=6) (B:=11) (Zk d.left d.right) (EG K hd)) ?_;have:(s').natAbs≤36:=by
   refine Ar q ?_;refine AJ (Cr _ 6 fun v g=>?_) ?_
   ·refine AF (List.mem_map.mp g) fun p m I=>?_;obtain rfl:=I;exact AO (A:=1) (B:=6) (j p m) (AJ (KI wo p.2) (z▸c))
   ·refine AB (List.length_map ..) ?_;refine AB S ?_;exact Nat.mul_le_mul_right _ c
  exact AO (A:=1) (B:=36) (KJ N) this
 have J:Nn od wo hd t≠[]:=fun h=>by
  have:(Nn od wo hd t).length=wo.length:=(List.length_map ..)
  replace this:=h▸this;replace this:=List.length_nil.symm.trans this;exact Nat.not_succ_le_zero 1 ((this.trans z).symm▸V)
 refine Mc (k:=k) Q (AJ (Nat.le_of_eq R) c) (fun v g=>bd (hb v g)) (Gh (n:=n+8) (by refine Eq.trans (List.length_map ..) ?_;refine Eq.trans ?_ (BL ..).symm;exact z.trans R.symm) J E) fun i s q=>?_;refine(AQ _ (F0 (VD q (Int.mul_ne_zero (by decide) i))) ?_)
 have W:Xf (Float64.add (Float64.ofInt 0) (tlToFloat r)) (8*(k*A7 od hd+t*s')):=by
  have:CO r=Float64.add (Float64.ofInt 0) (tlToFloat r):=rfl;refine Ar this ?_;refine AB l ?_;exact Dg (Ay (bd (AO (A:=8) (by constructor) o)))
 exact(FP W q (Zc d.left i) (Zd d.left i) (by refine AB (Int.mul_comm 8 ..) ?_;refine Eq.trans (Int.mul_assoc ..) ?_;refine Ar (Int.mul_assoc 8 ..) ?_;rfl) (Ay (bd o))).1
theorem O2 (K:B1 od wo) (l:t=1∨t = -1):∃ x i s r,Dm w (n+12) (.ref 440) [.list (A5 (Av od)),.list (Nn od wo hd t)] [] [] (.ret (.list x))∧Dm w (n+12) (.ref 343) [.list (A5 (Av od)),.list (Nn od wo hd t)] [] [] (.ret (.fv (.AS i)))∧x.length≤10∧
  D0 w (n+10) (.ref 329) [.list (Nn od wo hd t),.list (A5 od)] [] [] s∧D0 w (n+10) (.ref 329) [.list (Nn od wo hd t),.list (A5 (B7 od))] [] [] r∧HE ((x++[.AS i])++[s,r]) (YT od wo hd t):=by
 have S:=FR K.len K.bit;have b:=K.Ie;have P:=b.Y2;have Z:=b.dU;have R:=b.Y3;have b4:=b.Wm;have b5:=b.sum;have k:=K.lo;have o:=K.hi;have M:=K.len;have u:=K.Rr;have T:=EG K hd;have L:0≤By od*B3 od:=Int.mul_nonneg P R;have J:(By od*B3 od).natAbs≤36:=b.pq;have j:=FL K l;have F:=VF K;have I:=Nq (hd:=hd) (t:=t) K;have D:(Sg (od.zip wo) fun p=>(DN od p.1)*(IL od wo hd t p.2-8*A7 od hd))=8*od.length*Bg t od wo:=by
  have:(Sg (od.zip wo) fun p=>(DN od p.1)*(IL od wo hd t p.2-8*A7 od hd))=Sg (od.zip wo) fun p=>8*t*((DN od p.1)*sV wo p.2):=Ac fun p _=>by refine AB (KL ..) ?_;refine Eq.trans (Int.mul_left_comm ..) ?_;rfl
  refine Eq.trans this ?_;refine Eq.trans (Bf ..) ?_;refine AB S.cs ?_;refine AB (IK t ..) ?_;refine Eq.trans (Int.mul_assoc ..) ?_;refine Eq.trans ?_ (Int.mul_assoc ..).symm;refine AB (Int.mul_left_comm t ..) ?_;rfl
 have E:(0:Int)<od.length:=R8 (Nat.lt_succ_of_le (Nat.le_add_left 0 1)) k;obtain⟨x,i,O,N,X,Y,V⟩:=Nk (w:=w) (n:=n) (z:=od.zip wo) (C:=fun p=>DN od p.1) (G:=fun p=>FV.AS (Ck (IL od wo hd t p.2))) (g:=fun p=>IL od wo hd t p.2) (m:=8*A7 od hd) (S:=8*od.length*Bg t od wo) (q:=By od*B3 od*od.length) (a:=Bg t od wo) (b:=2*By od*B3 od) (a':=A7 od hd) (b':=2) (d:=od.length*Bg t od wo) (e:=2*(od.length:Int)-2) (by refine AB u ?_;exact k) (by refine AB u ?_;exact o) (fun p J=>(K.z1 J).2.2.2)
  (fun p J=>⟨Ru K l p.2,bd (IM K hd l p.2)⟩) (bd (AO (A:=8) (by constructor) T)) F (Np K) D (by refine Eq.trans ?_ S.cc;exact(K.G0 fun c=>c*c).symm) (by constructor) (Wv k) (Ay (bd j)) (Ay (bd (AO (A:=6) (B:=36) o j)))
  (fun h=>⟨by refine AB (Int.mul_assoc ..) ?_;exact Int.mul_pos (by constructor) (Lw L fun q=>h (Int.Internal.Linear.mul_eq_zero_left (By od*B3 od) (↑od.length) q)),by grind⟩) (by refine Ar (Int.mul_assoc ..) ?_;rfl) (by refine AB u ?_;grind)
 rw [←I,←K.Hc]at O N;refine AF (VG (w:=w) (n:=n) (hd:=hd) (fun f=>f) K l (ys:=od) (List.map_id' od).symm K.bit rfl S.us) fun s U v=>?_;refine AF (VG (w:=w) (n:=n) (hd:=hd) (fun f=>1-f) K l (ys:=B7 od) rfl (fun f Q=>by rcases K.bit f Q with h | h<;>refine AB h ?_<;>decide) rfl S.ls) fun r W y=>?_;refine(G7 x i s r O N X U W ?_)
 have H:HE x (if By od*B3 od=0 then [.none,.none]else [.AS (qf (Bg t od wo) (2*By od*B3 od)),.AS (qf (A7 od hd) 2)]):=by simpa only [VE (Int.ne_of_gt E)]using Y
 replace v:=(IK ..).symm▸v;replace y:=(show t * -Bg 1 od wo = -Bg t od wo by rw [IK t];grind)▸y;replace y:=Int.sub_eq_add_neg.symm▸y;have:=((H.app (.one (f:=.AS i) (g:=.AS _) V)).app (.one v)).app (.one y);rw [List.append_assoc]at this;exact this
end
noncomputable def O3:Nat→List Nat
 |0=>[0]
 |1=>[1]
 |2=>[8,2]
 |3=>[27,9,3]
 |4=>[64,28,16,10,4]
 |5=>[125,65,35,29,17,11,5]
 |6=>[216,126,72,66,54,36,30,24,18,12,6]
 |_=>[]
theorem JR {k:Type} (xs:List k) (p:k→Bool) (f:k→Int):Sg xs f=Sg (xs.filter p) f+Sg (xs.filter fun a=>!p a) f:=by
 induction xs with
 |nil=>rfl
 |cons a l e=>
  rw [A4,e,List.filter_cons,List.filter_cons];cases h:p a
  ·simp only [Bool.not_false,if_true,Bool.false_eq_true,if_false,A4];exact Int.add_left_comm _ _ _
  ·simp only [Bool.not_true,if_true,Bool.false_eq_true,if_false,A4];exact(Int.add_assoc _ _ _).symm
theorem Rv:∀ n,n≤6→∀ k,k≤n→1≤k→∀ c∈O3 (n-k),c+k*k*k∈O3 n:=by decide
theorem UU:∀ (n:Nat) (wo:List Int),wo.length=n→n≤6→∃ c∈O3 n,(Sg wo fun v=>DS wo v*DS wo v)=(c:Nat):=by
 intro n
 induction n using Nat.strongRecOn with
 |ind n j=>
  intro wo hl i
  induction wo with
  |nil=>subst hl;exact⟨0,by decide,rfl⟩
  |cons v l=>
   obtain⟨wo,h⟩:∃ wo,wo=v::l:=⟨_,rfl⟩
   rw [←h]at hl ⊢;obtain⟨k,d⟩:∃ k,k=(wo.filter fun u=>u==v).length:=⟨_,rfl⟩
   have y:1≤k:=by rw [d,h,List.filter_cons,if_pos (by simp),List.length_cons];exact Nat.le_add_left 1 _
   have a:k+(wo.filter fun u=>!(u==v)).length=n:=by
    have:=JR wo (fun u=>u==v) fun z=>1;rw [Bz,Bz,Bz,Int.mul_one,Int.mul_one,Int.mul_one]at this;rw [d,←hl];exact(Int.ofNat_inj.mp this).symm
   refine AF (j (n-k) (ZO y a) (wo.filter fun u=>!(u==v)) (ZM a) (AJ (Nat.sub_le n k) i)) fun c m e=>?_;refine⟨c+k*k*k,Rv n i k (a▸Nat.le_add_right _ _) y c m,?_⟩
   rw [JR wo fun u=>u==v];have o:(Sg (wo.filter fun u=>u==v) fun u=>DS wo u*DS wo u)=(k*k*k:Nat):=by
    rw [Ac (g:=fun z=>(k*k:Int)) fun u f=>by
     have:u=v:=by simpa using(List.mem_filter.mp f).2
     unfold DS;rw [this,←d],Bz,←d]
    push_cast
    rw [Int.mul_comm]
   have p:(Sg (wo.filter fun u=>!(u==v)) fun u=>DS wo u*DS wo u)=(c:Nat):=by
    rw [←e];refine Ac fun u f=>?_;have b:(u==v)=false:=by simpa using(List.mem_filter.mp f).2
    have:DS wo u=DS (wo.filter fun u=>!(u==v)) u:=by
     unfold DS;rw [List.filter_filter]
     congr 2
     refine List.filter_congr fun x z=>?_;cases hx:x==u
     ·simp
     ·have:x=u:=by simpa using hx
      rw [this,b];rfl
    rw [this]
   rw [o,p];push_cast;exact Int.add_comm _ _
noncomputable def tV (wo:List Int):Int:=Sg wo fun x=>sV wo x*sV wo x
theorem Wb (y:wo.length≤6):∃ c∈O3 wo.length,tV wo=(((wo.length*wo.length*wo.length-c)/3:Nat):Int)∧Fb wo=3*tV wo:=by
 refine AF (UU wo.length wo rfl y) fun c b e=>?_;have d:=UL wo;have f:Fb wo=(wo.length:Int)*wo.length*wo.length-c:=e▸Ri wo
 have g:0≤tV wo:=Gv fun x z=>RR _;have k:Fb wo=3*tV wo:=d;refine⟨c,b,?_,k⟩
 refine Ap (Int.eq_ofNat_of_zero_le g) fun T h=>?_;have a:wo.length*wo.length*wo.length=3*T+c:=by
  have y:((wo.length*wo.length*wo.length:Nat):Int)=(wo.length:Int)*wo.length*wo.length:=by push_cast;rfl
  rw [f,h]at k;exact Int.ofNat.inj (y.trans (Int.sub_eq_iff_eq_add.mp k))
 rw [h,a,Nat.add_sub_cancel,Nat.mul_div_cancel_left _ (by decide)]
noncomputable def UW (c N p T:Nat):Bool:=match MU (Ck ((c*c/4*p*N:Nat):Int)) (Ck ((4*T:Nat):Int))with
 |none=>false
 |some r=>if p*T==0 then Float64.isZero r else !Float64.isZero r&&(match Float64.decode r with
  |.fin false m e=>Nat.ble (2^1070) (m*2^(e+1074).toNat)&&Nat.ble (m*2^(e+1074).toNat) (2^1100)
  |_=>false)&&(List.range 62).all fun k=>k*k != N*p*T||r==Ck ((c*k:Nat):Int)
noncomputable def E8 (c N:Nat):Bool:=(List.range (N+1)).all fun o=>(O3 N).all fun x=>Nat.ble N (2*o-1)||UW c N (o*(N-o)) ((N*N*N-x)/3)
theorem bf:E8 8 2=true:=by decide +kernel
theorem bh:E8 8 3=true:=by decide +kernel
theorem bj:E8 8 4=true:=by decide +kernel
theorem bk:E8 8 5=true:=by decide +kernel
theorem bo:E8 8 6=true:=by decide +kernel
theorem bq:E8 4 2=true:=by decide +kernel
theorem br:E8 4 3=true:=by decide +kernel
theorem bt:E8 4 4=true:=by decide +kernel
theorem bu:E8 4 5=true:=by decide +kernel
theorem bw:E8 4 6=true:=by decide +kernel
theorem Wc {o x:Nat} (d:c=8∨c=4) (j:2≤N) (i:N≤6) (e:o≤N) (b:x∈O3 N):UW c N (o*(N-o)) ((N*N*N-x)/3)=true:=by
 have h:E8 c N=true:=by
  have g:=Wu j i;rcases d with rfl | rfl<;>rcases g with rfl | rfl | rfl | rfl | rfl
  ·exact bf
  ·exact bh
  ·exact bj
  ·exact bk
  ·exact bo
  ·exact bq
  ·exact br
  ·exact bt
  ·exact bu
  ·exact bw
 have k:∀ o,o≤N→2*o≤N→UW c N (o*(N-o)) ((N*N*N-x)/3)=true:=fun o e l=>by
  have f:=List.all_eq_true.mp h o (List.mem_range.mpr (Nat.lt_succ_of_le e));have a:=List.all_eq_true.mp f x b;rcases Bool.or_eq_true_iff.mp a with y | y
  ·exact absurd (Bh y) (Nat.not_le.mpr (Nat.lt_of_le_of_lt (Nat.sub_le_sub_right l 1) (Nat.sub_one_lt_of_lt j)))
  ·exact y
 rcases Nat.lt_or_ge N (2*o)with q | q
 ·have:=k (N-o) (Nat.sub_le N o) (by rw [Nat.mul_sub];exact AJ (Nat.sub_le_sub_left (Nat.le_of_lt q) _) (Nat.le_of_eq (by rw [Nat.two_mul,Nat.add_sub_cancel])));rwa [Nat.sub_sub_self e,Nat.mul_comm]at this
 ·exact k o e q
end
section
open PySem PySem.W PySem.Calls PyProof.Rows PySem.Spec PySem.Builtin.Math Float64
theorem Yf {x:UInt64} {a:Bool} {e:Int} (d:decode x = .fin a m e):b2i (Float64.cmpInt x 0==some .gt)-b2i (Float64.cmpInt x 0==some .lt)=b2i (decide (0<val x))-b2i (decide (val x<0)):=by
 refine AB (cmpInt_right d ..) ?_;refine AB (Int.zero_mul ..) ?_;refine Or.elim (Int.lt_trichotomy (val x) 0) (fun h=>?_) (fun k=>Or.elim k (fun h=>?_) (fun h=>?_))
 ·have:compare (val x) 0 = .lt:=by rw [Int.compare_eq_lt];exact h
  refine AB this ?_;refine AB (decide_eq_true h) ?_;refine AB (decide_eq_false (Int.not_lt.mpr (Int.le_of_lt h))) ?_;rfl
 ·refine AB h ?_;rfl
 ·have:compare (val x) 0 = .gt:=by rw [Int.compare_eq_gt];exact h
  refine AB this ?_;refine AB (decide_eq_true h) ?_;refine AB (decide_eq_false (Int.not_lt.mpr (Int.le_of_lt h))) ?_;rfl
theorem UX {x r:UInt64} {j:Int} {e:Int} (G:Xf x j) (H:j.natAbs≤2^20) (C:decode r = .fin false m e) (b:2^1070≤m*2^(e+1074).toNat) (K:m*2^(e+1074).toNat≤2^1100) :
  b2i (Float64.cmpInt (div x r) 0==some .gt)-b2i (Float64.cmpInt (div x r) 0==some .lt)=b2i (decide (0<j))-b2i (decide (j<0)):=by
 refine Bt (G) fun l u=>?_;obtain⟨c,k,L,B⟩:=l;have z:m≠0:=fun h=>by
  replace b:=h▸b;rewrite [Nat.zero_mul]at b;have:=Nat.two_pow_pos 1070;exact absurd (by assumption) (Nat.not_lt.mpr (by assumption))
 have y:=div_right B C z;replace y:=u▸y;replace y:=(Dv ..)▸y;rewrite [val_natAbs C]at y;replace y:=(Bool.bne_false ..)▸y
 by_cases p:j=0
 ·subst p;have o:=Cs (k:=0) (Nat.lt_of_lt_of_le (Nat.two_pow_pos _) b:0<m*2^(e+1074).toNat) y (Nat.two_pow_pos 53) (by refine AB Int.natAbs_zero ?_;rewrite [Nat.zero_mul];refine Eq.trans (Nat.zero_mul ..) ?_;refine Eq.trans ?_ (Nat.mul_zero ..).symm;rfl);rw [EF]at o;refine Bt (o) fun n v=>?_;obtain⟨_,_,_,d⟩:=n;refine Eq.trans (Yf d) ?_;refine AB v ?_;rfl
 ·have i:=sign_of B (by refine AB u ?_;exact fun h=>p (Cf h));replace i:=u▸i;replace i:=i.trans (EE ..);refine Bj (JO y (by
   have o:2*(j.natAbs*2^1070*2^1074)≤2^21*(2^1070*2^1074):=by
    rewrite [Nat.mul_assoc];refine Ar (Nat.mul_assoc 2 ..) ?_;exact Nat.mul_le_mul_right _ (by exact AJ (Nat.mul_le_mul_left 2 H) (DY rfl))
   exact Nat.lt_of_lt_of_le (Nat.lt_of_le_of_lt o (by decide)) (Nat.mul_le_mul_right _ b))) fun m' M d=>?_
  refine Eq.trans (Yf d) ?_
  have q:val (div x r)≠0:=fun f=>by
   refine Cy (y) fun t A w E J=>?_;have a:t<infMag:=by
    refine Or.elim (Nat.lt_or_ge t infMag) (fun h=>?_) (fun h=>?_)
    ·exact h
    ·exfalso;replace d:=A▸d;replace d:=(Nat.le_antisymm w h)▸d;have:decode (pack c infMag) = .inf c:=by cases c<;>with_unfolding_all rfl
     injection (this.symm.trans d)
   replace f:=A▸f;replace f:=(val_pack c a).symm.trans f;have I:V t=0:=by
    have:=congrArg Int.natAbs f;rwa [sgn_natAbs]at this
   have g:=(J a 1).1;replace g:=I▸g;replace g:=(Nat.mul_zero ..)▸g;replace g:=(show V 1=1 by decide +kernel)▸g;replace g:=(Nat.mul_one ..)▸g;have F:2^1100<j.natAbs*2^1070*2^1074:=by
    refine AB (Nat.mul_assoc ..) ?_;exact Nat.lt_of_lt_of_le (show 2^1100<1*(2^1070*2^1074) by decide) (Nat.mul_le_mul_right _ (ZG p))
   generalize j.natAbs*2^1070*2^1074=W at *;generalize m*2^(e+1074).toNat=D at *;generalize 2^1100=P at *;exact Zj g F K (Nat.lt_of_lt_of_le (Nat.two_pow_pos 1070) b)
  have s:decide (val (div x r)<0)=c:=by
   have:=sign_of d q;refine Eq.trans this.symm ?_;rfl
  replace s:=s.trans i;simp only [(decide_eq_decide.mp s),Zo (decide_eq_decide.mp s) q p]
end
section
open PySem PySem.W PySem.Calls PyProof.Rows PySem.Spec PySem.Builtin.Math
theorem Yg {ns:List Int} (h:ns≠[]):(O4 ns∈ns∧∀ a∈ns,O4 ns≤a)∧L4 ns∈ns∧∀ a∈ns,a≤L4 ns:=by
 constructor
 ·cases hm:ns.min? with
  |none=>exact absurd (List.min?_eq_none_iff.mp hm) h
  |some m=>
   have:=List.min?_eq_some_iff.mp hm;unfold O4;refine AB hm ?_;exact this
 ·cases hm:ns.max? with
  |none=>exact absurd (List.max?_eq_none_iff.mp hm) h
  |some m=>
   have:=List.max?_eq_some_iff.mp hm;unfold L4;refine AB hm ?_;exact this
theorem UY (h:wo≠[]):tV wo=0↔O4 wo=L4 wo:=by
 refine CK (Yg h) fun k o a=>?_;obtain⟨i,d⟩:=k;constructor
 ·intro l;have m:=Nj (fun x z=>RR (sV wo x)) l _ o;have j:sV wo (L4 wo)=0:=by rcases Int.mul_eq_zero.mp m with h | h<;>exact h
  have b:=Nj (xs:=wo) (f:=fun u=>-(-sg u (L4 wo))) (fun u y=>by
   have:=a u y;refine Or.elim (Int.lt_or_le u (L4 wo)) (fun q=>?_) (fun q=>?_)
   ·refine AB (Dx q) ?_;exact Int.zero_le_ofNat (Nat.succ 0)
   ·refine AB (Int.le_antisymm this q:u=L4 wo) ?_;refine AB (Cb ..) ?_;exact Int.zero_le_ofNat 0) (by refine Eq.trans (Fq ..) ?_;refine AB (Fq ..) ?_;unfold sV at j;refine AB j ?_;rfl) _ i
  refine Or.elim (Int.lt_or_le (O4 wo) (L4 wo)) (fun q=>?_) (fun q=>?_)
  ·replace b:=(Dx q)▸b;exact absurd b (by decide)
  ·exact Int.le_antisymm (a (O4 wo) i) q
 ·intro e;unfold tV;rw [Ac (g:=fun z=>0) fun x c=>?_,Bz,Int.mul_zero];have:sV wo x=0:=by
   unfold sV;rw [Ac (g:=fun z=>0) fun u y=>?_,Bz,Int.mul_zero];have r:=d u y;have s:=a u y;have p:=d x c;have v:=a x c;refine AB (Int.le_antisymm (Int.le_trans s (e▸p)) (Int.le_trans v (e▸r)):u=x) ?_;refine Eq.trans (Cb ..) ?_;rfl
  refine AB this ?_;rfl
section
variable {w:Wd} {n:Nat} {od wo:List Int} {hd t:Int}
set_option tactic.hygienic true in
theorem Nr (hc:c=8∨c=4) (K:B1 od wo) (ht:t=1∨t = -1):∃ r,MU (Ck ((c*c/4:Nat)*(By od*B3 od*od.length))) (Ck (4*tV wo))=some r∧∀ a,Xf a (c*(od.length*Bg t od wo))→∃ f,N6 (Ib a r) = .fv f∧(∀ cls,Ib a r = .exc cls→cls = .ref 102)∧GR od wo t f:=by
 have b:=K.Ie;have b1:=b.Y2;have b3:=b.Y3;have b4:=b.Wm;have b5:=b.sum;have p:=K.lo;have j:=K.hi;have g:=K.len;have G:=FL K ht;have L:wo≠[]:=fun h=>by replace g:=h▸g;exact Nat.not_succ_le_zero 1 (g.symm▸p:2≤([]:List Int).length)
 obtain⟨x,R,E,C⟩:=Wb (wo:=wo) (le_of_eq_of_le g j);rw [g]at R E;obtain⟨o,O⟩:∃ o:Nat,By od=o:=⟨(By od).toNat,by exact Int.eq_natCast_toNat.mpr b1⟩
 obtain⟨N,Q⟩:∃ N,N=od.length:=⟨_,rfl⟩
 have oN:o≤N:=Int.ofNat_le.mp (by rw [←O,Q,←b5];exact Int.le_add_of_nonneg_right b3)
 have v:B3 od=((N-o:Nat):Int):=by rw [Int.ofNat_sub oN,←O,Q,←b5];exact R9.symm
 rw [←Q]at R E b5 p j ⊢;have y:=Wc hc p j oN R;obtain⟨T,Y⟩:∃ T,T=(N*N*N-x)/3:=⟨_,rfl⟩
 rw [←Y]at y E;unfold UW at y;have e1:((c*c/4*(o*(N-o))*N:Nat):Int)=(c*c/4:Nat)*(By od*B3 od*N):=by
  refine AB O ?_;refine AB v ?_;push_cast;exact Int.mul_assoc (↑c * ↑c/4) (↑o * ↑(N-o)) ↑N
 have e2:((4*T:Nat):Int)=4*tV wo:=by refine AB E ?_;push_cast;rfl
 replace y:=e1▸y;replace y:=e2▸y;split at y
 ·injection y
 ·rename_i r hr;refine⟨r,hr,fun a ha=>?_⟩
  have D:(By od*B3 od==0||O4 wo==L4 wo)=(o*(N-o)*T==0):=by
   rw [Bool.eq_iff_iff];simp only [Bool.or_eq_true,beq_iff_eq];rewrite [←UY L];refine AB E ?_;refine AB O ?_;refine AB v ?_;constructor
   ·rintro (h | h)
    ·have s:o*(N-o)=0:=by exact_mod_cast h
     refine AB s ?_;refine Eq.trans (Nat.zero_mul ..) ?_;rfl
    ·have s:T=0:=by exact_mod_cast h
     refine AB s ?_;refine Eq.trans (Nat.mul_zero ..) ?_;rfl
   ·intro h;refine Or.elim (Nat.mul_eq_zero.mp h) (fun s=>?_) (fun s=>?_)
    ·left;exact_mod_cast s
    ·right;exact_mod_cast s
  unfold GR;refine AB D ?_
  by_cases J:(o*(N-o)*T==0)=true
  ·replace y:=(if_pos J)▸y;simp only [J,if_true];have:Ib a r = .exc (.ref 102):=if_pos y;refine AB this ?_;exact⟨.none,rfl,(fun cls h=>by obtain rfl:=(Internal.Out.exc.inj h);rfl),rfl⟩
  ·replace y:=(if_neg J)▸y;simp only [Bool.and_eq_true]at y;obtain⟨⟨k1,I⟩,k3⟩:=y;have S:Float64.isZero r=false:=by simpa using k1
   have:Ib a r = .ret (.fv (.AS (Float64.div a r))):=if_neg (by refine AB S ?_;exact Bool.false_ne_true);refine AB this ?_;refine⟨.AS (Float64.div a r),rfl,(fun cls h=>by injection h),?_⟩
   refine AB (if_neg J) ?_;refine⟨_,rfl,?_,fun q hq=>?_⟩
   ·split at I
    ·rename_i m e bz;rw [Bool.and_eq_true]at I;have Z:((c:Int)*(N*Bg t od wo)).natAbs≤8*(6*36):=AO (Zb hc) (AO (by assumption) G);refine Eq.trans (UX ha (by exact AJ Z (DY rfl)) bz (Bh I.1) (Bh I.2)) ?_;have d:0<(c:Int)*N:=Int.mul_pos (Int.ofNat_lt.mpr (W0 hc)) (R8 (Nat.lt_succ_of_le (Nat.le_add_left 0 1)) p);have s1:0<(c:Int)*(N*Bg t od wo)↔0<Bg t od wo:=by
      refine Ar (Int.mul_assoc ..) ?_;exact⟨fun h=>Int.pos_of_mul_pos_right h d,fun h=>Int.mul_pos d h⟩
     have s2:(c:Int)*(N*Bg t od wo)<0↔Bg t od wo<0:=by
      refine Ar (Int.mul_assoc ..) ?_;refine⟨fun h=>?_,fun h=>Int.mul_neg_of_pos_of_neg d h⟩
      refine Or.elim (Int.lt_or_le (Bg t od wo) 0) (fun q=>?_) (fun q=>?_)
      ·exact q
      ·exact Int.neg_of_mul_neg_right h d
     simp only [s1,s2]
    ·injection I
   ·
    unfold IG at hq;obtain⟨U,P⟩:=List.mem_filter.mp hq;obtain⟨i,hi,rfl⟩:=List.mem_map.mp U;have gX:=List.mem_range.mp hi;have H:((1:Int)+i)*(1+i)=9*(N*(o*(N-o:Nat))*T):=by
     have:((1:Int)+i)*(1+i)=YQ od wo:=Int.Internal.Linear.mul_eq_kk (1 + ↑i) (1 + ↑i) (1 + ↑i) (1 + ↑i) (YQ od wo) rfl rfl P;refine Eq.trans this ?_;unfold YQ;refine AB C ?_;refine AB E ?_;refine AB O ?_;refine AB v ?_;refine Ar Q ?_;grind
    obtain⟨k,hk⟩:∃ k:Nat,1+i=3*k:=by
     refine⟨(1+i)/3,?_⟩
     have h3:(1+i)%3=0∨(1+i)%3=1∨(1+i)%3=2:=Ze;have F:(1+i)*(1+i)=9*(N*(o*(N-o))*T):=by exact_mod_cast H
     have l:((1+i)*(1+i))%3=0:=by refine AB F ?_;exact Zf
     replace l:=(Nat.mul_mod ..)▸l;refine Or.elim h3 (fun h=>?_) (fun u=>Or.elim u (fun h=>?_) (fun h=>?_))
     ·exact(Nat.mul_div_cancel' (Nat.dvd_of_mod_eq_zero h)).symm
     ·replace l:=h▸l;injection l
     ·replace l:=h▸l;injection l
    have V:k*k=N*(o*(N-o))*T:=by
     have F:(1+i)*(1+i)=9*(N*(o*(N-o))*T):=by exact_mod_cast H
     replace F:=hk▸F;replace F:=(Nat.mul_mul_mul_comm ..).symm.trans F;exact Nat.eq_of_mul_eq_mul_left (by decide:0<9) F
    have kk:k<62:=Nat.lt_of_mul_lt_mul_left (a:=3) (hk▸Nat.lt_trans (Nat.add_lt_add_left gX 1) (by decide):3*k<3*62);have kp:0<k:=Nat.pos_of_ne_zero fun q=>Nat.succ_ne_zero i ((Nat.add_comm i 1).trans (hk.trans (by rw [q])));have z:=List.all_eq_true.mp k3 k (List.mem_range.mpr kk);replace z:=V▸z;have W:r=Ck ((c*k:Nat):Int):=by simpa using z
    have M:Xf r ((c*k:Nat):Int):=by
     refine AB W ?_;refine Dg (Ay ?_);have:c*k≤8*62:=Nat.mul_le_mul (Zm hc) (Nat.le_of_lt kk);exact AJ this (Nat.le_add_left (8*62) 1073741328)
    have X:0<((c*k:Nat):Int):=by
     have:0<c*k:=Nat.mul_pos (W0 hc) kp;exact Int.natCast_pos.mpr this
    have e5:(1:Int)+i=3*k:=by exact_mod_cast hk
    refine AB e5 ?_;refine(FP ha M X (Int.mul_pos (by decide) (Int.ofNat_lt.mpr kp)) (by push_cast;grind) (Ay ?_)).1;exact AJ (AO (A:=18) (B:=36) (by refine Ar Q ?_;exact Nat.mul_le_mul_left 3 j) G) (Bh rfl)
end
section
variable {w:Wd} {n:Nat} {od wo:List Int} {hd t:Int}
set_option maxHeartbeats 800000 in
theorem cB (K:B1 od wo) (d:t=1∨t = -1):∃ f,D0 w (n+10) (.ref 349) [.list (A5 (Av od)),.list (Nn od wo hd t)] [] [] f∧GR od wo t f:=by
 have S:=FR K.len K.bit;have L:=K.Rr;have P:(od.zip wo).length≤6:=L▸K.hi;have k:=AJ P (show 6≤100 by exact Bh rfl);have J:0<(od.zip wo).length:=L▸Nat.lt_of_lt_of_le Nat.zero_lt_two K.lo;have y:∀ p∈od.zip wo,(DN od p.1).natAbs≤6:=fun p h=>(K.z1 h).2.2.2;have E:∀ x,(sV wo x).natAbs≤6:=fun x=>AJ (KI wo x) (K.len▸K.hi);have e:∀ p∈od.zip wo,Nf (FV.int (DN od p.1)) (16*DN od p.1)∧(16*DN od p.1).natAbs≤2^20:=fun p h=>⟨Gx (bd (y p h)),bd (AO (A:=16) (by constructor) (y p h))⟩
 have g:∀ p∈od.zip wo,Nf (FV.AS (Ck (IL od wo hd t p.2))) (IL od wo hd t p.2)∧(IL od wo hd t p.2).natAbs≤2^20:=fun p Z=>⟨Ru K d p.2,bd (IM K hd d p.2)⟩
 have a:∀ p∈od.zip wo,Sm (16*DN od p.1-0):=fun p h=>by refine AB (Int.sub_zero ..) ?_;exact Ay (bd (e p h).2)
 have b:∀ x,Sm (IL od wo hd t x-8*A7 od hd):=fun x=>Ay (bd (FK (IM K hd d x) (AO (A:=8) (by constructor) (EG K hd))));refine AF (GU (m:=0) e k J (Ay (Bh rfl)) (by refine Eq.trans (Bf ..) ?_;refine AB (VF K) ?_;refine Eq.trans (Int.mul_zero ..) ?_;refine Eq.trans ?_ (Int.zero_mul ..).symm;rfl)) fun Y u H=>?_;refine AF (GU (m:=8*A7 od hd) g k J (Ay (bd (AO (A:=8) (by constructor) (EG K hd)))) (Np K)) fun yb q I=>?_;refine AY (GX (l:=fun p=>8*t*(DN od p.1*sV wo p.2)) (fun p h=>(e p h).1) (fun p h=>(g p h).1) H I (fun p h=>⟨a p h,b p.2,by refine AB (Int.sub_zero ..) ?_;refine AB (KL ..) ?_;refine Eq.trans (Int.mul_assoc ..) ?_;refine AB (Int.mul_left_comm (DN od p.1) ..) ?_;rfl,bd (AO (AO (A:=8) (by constructor) (KJ d)) (AO (y p h) (E p.2)))⟩) k) fun M G C Z=>?_;refine AY (GX (l:=fun p=>16*(DN od p.1*DN od p.1)) (fun p h=>(e p h).1) (fun p h=>(e p h).1) H H (fun p h=>⟨a p h,a p h,by refine AB (Int.sub_zero ..) ?_;refine Eq.trans (Int.mul_assoc ..) ?_;refine AB (Int.mul_left_comm (DN od p.1) ..) ?_;rfl,bd (AO (A:=16) (by constructor) (AO (y p h) (y p h)))⟩) k) fun X O i Z=>?_;refine AY (GX (l:=fun p=>4*(sV wo p.2*sV wo p.2)) (fun p h=>(g p h).1) (fun p h=>(g p h).1) I I (fun p h=>⟨b p.2,b p.2,by refine AB (KL ..) ?_;rcases d with rfl | rfl<;>grind,bd (AO (A:=4) (by constructor) (AO (E p.2) (E p.2)))⟩) k) fun W N z Z=>?_;replace C:=(Bf ..)▸C;replace C:=S.cs▸C;replace i:=(Bf ..)▸i;replace i:=(K.G0 fun c=>c*c).symm▸i;replace i:=S.cc▸i;replace z:=(Bf ..)▸z;replace z:=(K.Nl fun v=>sV wo v*sV wo v).symm▸z;refine AF (Nr (c:=8) (.inl rfl) K d) fun r T o=>?_;refine AY (o (CO M) (by
  refine AB C ?_;refine AB (show 8*t*(od.length*Bg 1 od wo)=((8:Nat):Int)*(od.length*Bg t od wo) by refine AB (IK t ..) ?_;refine Eq.trans (Int.mul_assoc ..) ?_;refine AB (Int.mul_left_comm t ..) ?_;rfl) ?_;exact Dg (Ay (AJ (AO (A:=8) (B:=6*36) (by constructor) (AO (A:=6) (B:=36) K.hi (FL K d))) (Bh rfl))))) fun f V Q R=>?_
 rw [←Nq K]at q G N;rw [←K.Hc]at u G O;have F:(A5 (Av od)).length=od.length:=by refine Eq.trans (BL ..) ?_;unfold Av;exact(List.length_map ..)
 have U:(Nn od wo hd t).length=od.length:=by unfold Nn;refine Eq.trans (List.length_map ..) ?_;refine Eq.trans K.len ?_;rfl
 refine⟨f,⟨Ib (CO M) r,T4 (n:=n+6) (F.trans U.symm) (F▸K.lo) (by refine AB F ?_;exact AJ K.hi (Bh rfl)) (fun f j=>?_) (fun f j=>?_) u q G O N ?_,V,Q⟩,R⟩
 ·rw [K.Hc]at j;refine AF (List.mem_map.mp j) fun p h D=>?_;obtain rfl:=D;exact(e p h).1.1
 ·rw [Nq K]at j;refine AF (List.mem_map.mp j) fun p h s=>?_;clear j;obtain rfl:=s;exact(g p h).1.1
 ·refine AB i ?_;refine AB z ?_;exact T
theorem cC {wo:List Int} (g:t=1∨t = -1) (x:Int):sV (wo.map fun v=>t*v) (t*x)=t*sV wo x:=by
 refine Eq.trans (DL ..) ?_;refine Eq.trans ?_ (Bf ..);refine Ac fun u z=>?_;refine Or.elim g (fun k=>?_) (fun y=>?_)
 ·refine AB k ?_;refine AB (Int.one_mul ..) ?_;refine AB (Int.one_mul ..) ?_;refine Eq.trans ?_ (Int.one_mul ..).symm;rfl
 ·refine AB y ?_;refine Ar (Int.neg_eq_neg_one_mul u) ?_;refine Ar (Int.neg_eq_neg_one_mul x) ?_;refine Ar (Int.neg_eq_neg_one_mul (sg u x)) ?_;refine Or.elim (Int.lt_trichotomy u x) (fun h=>?_) (fun e=>Or.elim e (fun h=>?_) (fun h=>?_))
  ·refine AB (Dx h) ?_;refine Eq.trans (E7 (Int.neg_lt_neg h)) ?_;rfl
  ·refine AB h ?_;refine Eq.trans (Cb ..) ?_;refine AB (Cb ..) ?_;rfl
  ·refine AB (E7 h) ?_;refine Eq.trans (Dx (Int.neg_lt_neg h)) ?_;rfl
theorem Rw (K:B1 od wo) {p:Int×Int} (y:p∈od.zip wo):sV (Av od) (DN od p.1)=DN od p.1:=by
 have b:=K.Ie;have l:=b.sum;have c:=K.lo;have x:By od=Sg od fun f=>f:=Eq.symm (sum_map_id_int od);have e:B3 od=Sg od fun f=>1-f:=rfl;have a:0<B3 od - -By od:=by rw [Int.sub_neg,Int.add_comm,l];exact Int.ofNat_lt.mpr (Nat.lt_of_lt_of_le (by decide) c)
 have d:∀ f∈od,∀ g,g=0∨g=1→sg (DN od f) (DN od g)=sg f g:=fun f k g j=>by
  rcases K.bit f k with rfl | rfl<;>rcases j with rfl | rfl
  ·refine Eq.trans (Cb ..) ?_;refine Eq.trans ?_ (Cb ..).symm;rfl
  ·refine AB (Dx (show(0:Int)<1 by decide)) ?_;refine Eq.trans (Dx (W2 a)) ?_;rfl
  ·refine AB (E7 (show(0:Int)<1 by decide)) ?_;refine Eq.trans (E7 (W2 a)) ?_;rfl
  ·refine Eq.trans (Cb ..) ?_;refine Eq.trans ?_ (Cb ..).symm;rfl
 have i:sV (Av od) (DN od p.1)=Sg od fun f=>sg f p.1:=by
  refine Eq.trans (DL ..) ?_;exact Ac fun f k=>d f k _ (K.z1 y).1
 refine Eq.trans i ?_;refine Or.elim ((K.z1 y).1) (fun h=>?_) (fun h=>?_)
 ·refine AB h ?_;refine Eq.trans (Ac (g:=fun f=>-1*f) fun f k=>by rcases K.bit f k with rfl | rfl<;>decide) ?_;refine Eq.trans (Bf ..) ?_;refine Ar x ?_;unfold DN;rw [Int.mul_zero,Int.sub_zero,Int.mul_one,Int.zero_sub];exact(Int.neg_eq_neg_one_mul _).symm
 ·refine AB h ?_;refine Eq.trans (Ac (g:=fun f=>1-f) fun f k=>by rcases K.bit f k with rfl | rfl<;>decide) ?_;refine Ar e ?_;unfold DN;rw [Int.mul_one,Int.sub_self,Int.mul_zero,Int.sub_zero]
theorem Rx (h:2≤N) (k:N≤6):Float64.sub (qf ((N:Int)-1) (-2)) (Float64.ofInt 1)=Ck (-8*((N:Int)+1)):=
 (by decide +kernel:∀ N:Nat,N<7→2≤N→Float64.sub (qf ((N:Int)-1) (-2)) (Float64.ofInt 1)=Ck (-8*((N:Int)+1))) N (Nat.lt_succ_of_le k) h
theorem VH {ns:List Int} (hl:ns.length=N) (e:2≤N) (k:N≤6):Cp w false ns (.AS (Float64.sub (qf ((N:Int)-1) (-2)) (Float64.ofInt 1))) (ns.map fun x=>.AS (Ck (8*sV ns x))):=by
 subst hl;have h:=Lv (w:=w) (b:=false) (ns:=ns) (k0:=-8*((ns.length:Int)+1)) (Nat.one_le_of_lt e) k (Za k) (.inr rfl);refine AB (Rx e k) ?_;rwa [show(fun x=>FV.AS (Ck (-8*((ns.length:Int)+1)+8*(ns.length+1+(if(false=true)then -sV ns x else sV ns x)))))=fun x=>.AS (Ck (8*sV ns x))from funext fun x=>by congr 2;refine AB (if_neg (by decide)) ?_;rw [Int.mul_add 8 _ (sV ns x),Int.neg_mul];exact Int.neg_add_cancel_left _ _]at h
theorem cD (K:B1 od wo) (E:t=1∨t = -1):∃ f,D0 w (n+10) (.ref 349) [.BN (Av od),.BN (wo.map fun v=>t*v)] ["method"] [.str "ranked"] f∧GR od wo t f:=by
 have S:=FR K.len K.bit;have j:=K.lo;have l:=K.hi;have o:=K.len;have U:=K.Rr;have T:=FL K E;have tb:=KJ E;have m:(od.zip wo).length≤100:=U▸AJ l (Bh rfl);have q:(Av od).length=od.length:=by unfold Av;exact(List.length_map ..)
 have lt:(wo.map fun v=>t*v).length=od.length:=by refine Eq.trans (List.length_map ..) ?_;refine Eq.trans o ?_;rfl
 have L:∀ p∈od.zip wo,(sV wo p.2).natAbs≤6:=fun p _=>AJ (KI wo p.2) (o▸l);have u:∀ p∈od.zip wo,(t*sV wo p.2).natAbs≤6:=fun p i=>AJ (AO tb (L p i)) (by constructor);obtain⟨C,J⟩:∃ C:Int×Int→Int,C=fun p=>DN od p.1:=⟨_,rfl⟩
 have H:∀ p∈od.zip wo,(C p).natAbs≤6:=fun p i=>by refine AB J ?_;exact(K.z1 i).2.2.2
 have p1:Cp w false (Av od) (.AS (Float64.sub (qf (((Av od).length:Int)-1) (-2)) (Float64.ofInt 1))) ((od.zip wo).map fun p=>.AS (Ck (8*C p))):=by
  have h:=VH (w:=w) (ns:=Av od) rfl (q.symm▸j) (q.symm▸l);have e:((Av od).map fun x=>FV.AS (Ck (8*sV (Av od) x)))=(od.zip wo).map fun p=>.AS (Ck (8*C p)):=by
   rw [J,show ∀ F:Int→FV,(Av od).map F=od.map (F∘DN od)from fun F=>List.map_map,K.Gy];exact List.map_congr_left fun p i=>by rewrite [Function.comp];refine AB (Rw K i) ?_;rfl
  rwa [e]at h
 have p2:Cp w false (wo.map fun v=>t*v) (.AS (Float64.sub (qf (((Av od).length:Int)-1) (-2)) (Float64.ofInt 1))) ((od.zip wo).map fun p=>.AS (Ck (8*(t*sV wo p.2)))):=by
  have h:=VH (w:=w) (lt.trans q.symm) (q.symm▸j) (q.symm▸l);rwa [List.map_map,(K.KH _).trans (List.map_congr_left (g:=fun p=>FV.AS (Ck (8*(t*sV wo p.2)))) fun p _=>by rewrite [Function.comp];refine AB (cC E ..) ?_;rfl)]at h
 have M:∀ {k:Int},k.natAbs≤48→∃ x,Hz (.AS (Ck k))=some x∧Xf x k:=fun h=>⟨_,rfl,Dg (Ay (bd h))⟩
 refine AY (IJ (F:=fun p:Int×Int=>FV.AS (Ck (8*C p))) (G:=fun p=>FV.AS (Ck (8*(t*sV wo p.2)))) (lf:=fun p=>4*t*(C p*sV wo p.2)) (xs:=od.zip wo) (fun p i=>by
  have s:=H p i;have R:=u p i;refine AF (M (AO (a:=8) (A:=8) (B:=6) (by constructor) s)) fun x O P=>?_;refine AF (M (AO (a:=8) (A:=8) (B:=6) (by constructor) R)) fun y I N=>?_;exact⟨⟨x,y,_,_,O,I,P,N,by grind⟩,rfl,bd (AO (AO (A:=4) (by constructor) tb) (AO s (L p i)))⟩) m) fun Q s1 s2 _=>?_
 refine AY (IJ (F:=fun p:Int×Int=>FV.AS (Ck (8*C p))) (G:=fun p=>FV.AS (Ck (8*C p))) (lf:=fun p=>4*(C p*C p)) (xs:=od.zip wo) (fun p i=>by
  have s:=H p i;refine AF (M (AO (a:=8) (A:=8) (B:=6) (by constructor) s)) fun x O P=>?_;exact⟨⟨x,x,_,_,O,O,P,P,by grind⟩,rfl,bd (AO (A:=4) (by constructor) (AO s s))⟩) m) fun t2 s3 s4 _=>?_
 refine AY (IJ (F:=fun p:Int×Int=>FV.AS (Ck (8*(t*sV wo p.2)))) (G:=fun p=>FV.AS (Ck (8*(t*sV wo p.2)))) (lf:=fun p=>4*(sV wo p.2*sV wo p.2)) (xs:=od.zip wo) (fun p i=>by
  have R:=u p i;refine AF (M (AO (a:=8) (A:=8) (B:=6) (by constructor) R)) fun y I N=>?_;exact⟨⟨y,y,_,_,I,I,N,N,by rcases E with rfl | rfl<;>grind⟩,rfl,bd (AO (A:=4) (by constructor) (AO (L p i) (L p i)))⟩) m) fun Y V Z _=>?_
 have d:CO Q=Ck (Sg (od.zip wo) fun p=>4*t*(C p*sV wo p.2)):=s2;have b:CO t2=Ck (Sg (od.zip wo) fun p=>4*(C p*C p)):=s4;have D:CO Y=Ck (Sg (od.zip wo) fun p=>4*(sV wo p.2*sV wo p.2)):=Z;replace d:=(Bf ..)▸d;replace d:=J▸d;replace d:=S.cs▸d;replace b:=(Bf ..)▸b;replace b:=J▸b;replace b:=(K.G0 fun c=>c*c).symm▸b;replace b:=S.cc▸b;rw [Bf,←K.Nl fun v=>sV wo v*sV wo v]at D;refine AF (Nr (c:=4) (.inr rfl) K E) fun r hr z=>?_;refine AY (z (CO Q) (by
  have e:4*t*(od.length*Bg 1 od wo)=((4:Nat):Int)*(od.length*Bg t od wo):=by refine AB (IK t ..) ?_;refine Eq.trans (Int.mul_assoc ..) ?_;refine AB (Int.mul_left_comm t ..) ?_;rfl
  refine AB d ?_;refine AB e ?_;exact Dg (Ay (AJ (AO (A:=4) (B:=6*36) (by constructor) (AO (A:=6) (B:=36) l T)) (Bh rfl))))) fun f f1 W X=>?_
 refine⟨f,⟨Ib (CO Q) r,RH (n:=n) (q.trans lt.symm) (le_of_le_of_eq j (id (Eq.symm q))) (le_of_eq_of_le q l) p1 p2 (by refine Eq.trans (List.length_map ..) ?_;refine AB (List.length_map ..) ?_;rfl) (fun h=>?_) s1 s3 V ?_,f1,W⟩,X⟩
 ·have:=congrArg List.length h;replace this:=(List.length_map ..).symm.trans this;replace this:=U.symm.trans this;replace j:=this▸j;cases j
 ·refine AB b ?_;refine AB D ?_;exact hr
theorem UZ (K:B1 od wo) (h:t=1∨t = -1):∃ j a x y k g e,Nb w n od wo hd t j a x y k g e:=by
 refine El (O2 (w:=w) (n:=n) (hd:=hd) K h) fun a x y k f o b q i c=>?_;refine AF (cB (w:=w) (n:=n) (hd:=hd) K h) fun g l p=>?_;refine AF (cD (w:=w) (n:=n) K h) fun e m d=>?_;exact⟨_,a,x,y,k,g,e,UT K h,f,o,q,i,c,b,l,m,p,d⟩
end
theorem cE {a:Int} (k:0≤a) (h:a<2):a=0∨a=1:=(Int.lt_or_le a 1).elim (fun q=>.inl (Int.le_antisymm (Int.le_of_lt_add_one (show a<0+1 from q)) k)) fun q=>.inr (Int.le_antisymm (Int.le_of_lt_add_one (show a<1+1 from h)) q)
theorem Ua (ns:List Int):B1 (Cm (Aa ns)) (Cq (Aa ns) (BJ ns))∧∃ M,(Cq (Aa ns) (BJ ns)).sum=((Cm (Aa ns)).length:Int)*M:=by
 have d:(Aa ns).length=min 6 (ns.length+2):=JN;have c:(Cm (Aa ns)).length=(Aa ns).length:=(List.length_map ..)
 have i:∀ f∈Cm (Aa ns),f=0∨f=1:=fun f j=>by
  refine AF (List.mem_map.mp j) fun x z y=>?_;obtain rfl:=y;exact cE (Int.fmod_nonneg_of_pos x (by constructor)) (Int.fmod_lt_of_pos x (by constructor))
 have b:(E4 (Aa ns) (BJ ns)).length=(Aa ns).length∧∀ r∈E4 (Aa ns) (BJ ns),0≤r∧r≤6:=by
  unfold E4;split
  ·constructor
   ·refine Eq.trans (List.length_map ..) ?_;refine Eq.trans List.length_append ?_;refine AB List.length_drop ?_;refine AB List.length_take ?_;refine AB c ?_;exact Wr
   ·intro r b;refine AF (List.mem_map.mp b) fun f j a=>?_;obtain rfl:=a;have:f∈Cm (Aa ns):=by
     refine Or.elim (List.mem_append.mp j) (fun h=>?_) (fun h=>?_)
     ·exact List.mem_of_mem_drop h
     ·exact List.mem_of_mem_take h
    rcases i f this with rfl | rfl<;>exact⟨by constructor,by constructor⟩
  ·constructor
   ·exact(List.length_map ..)
   ·intro r b;refine AF (List.mem_map.mp b) fun f z g=>?_;obtain rfl:=g;exact⟨Int.fmod_nonneg_of_pos (f.fdiv 2) (by constructor),Int.le_of_lt_add_one (Int.fmod_lt_of_pos (f.fdiv 2) (by constructor))⟩
 have o:=Int.fmod_nonneg_of_pos ((BJ ns).fdiv 7) (show(0:Int)<100 by constructor);have p:=Int.fmod_lt_of_pos ((BJ ns).fdiv 7) (show(0:Int)<100 by constructor);refine⟨⟨?_,?_,?_,i,fun v m=>?_⟩,?_⟩
 ·refine Eq.trans (List.length_map ..) ?_;refine Eq.trans b.1 ?_;refine Eq.trans ?_ c.symm;rfl
 ·refine AB c ?_;exact W3 d
 ·refine AB c ?_;exact AJ (Nat.le_of_eq d) (Nat.min_le_left 6 (ns.length+2))
 ·refine AF (List.mem_map.mp m) fun r l e=>?_;clear m;obtain rfl:=e;have:=b.2 r l;exact AJ (AO (A:=6) (B:=105) (show(Aa ns).length≤6 by refine AB d ?_;exact Nat.min_le_left _ _) (Uk (k:=105) (Int.add_nonneg this.1 o) (Int.add_le_add this.2 (Int.le_sub_one_of_lt p)))) (Bh rfl)
 ·refine⟨Sg (E4 (Aa ns) (BJ ns)) fun r=>r+((BJ ns).fdiv 7).fmod 100,?_⟩
  refine AB c ?_;refine Eq.trans ?_ (Bf ..);rfl
theorem Ry (ns:List Int):Nd ns:=by
 refine XB (Ua ns) fun K M h=>?_;exact⟨K,fun w n=>US K h,fun t k w n=>UZ K k⟩
end
section
open PySem PySem.W PySem.W.X PySem.W.ZRun PyProof.Rows
set_option Elab.async true
set_option tactic.hygienic true
namespace hz
theorem tw12943742945637386560:True:=⟨⟩
theorem tw17613753094322339136:True:=⟨⟩
theorem tw6260115540614841728:True:=⟨⟩
theorem tw17455061253764025760:True:=⟨⟩
theorem tw7218620151227854336:True:=⟨⟩
theorem tw12257370360852330016:True:=⟨⟩
theorem tw6478870322529470080:True:=⟨⟩
theorem tw6371693348183457440:True:=⟨⟩
theorem tw6164185050813885088:True:=⟨⟩
theorem tw1500273060135364288:True:=⟨⟩
theorem tw16861831668306097888:True:=⟨⟩
theorem tw1000445107504139040:True:=⟨⟩
theorem tw8908410567065498400:True:=⟨⟩
theorem tw8749183509641666561:True:=⟨⟩
theorem tw11234973067201820705:True:=⟨⟩
theorem tw7822091832183289921:True:=⟨⟩
theorem tw8256223631677015137:True:=⟨⟩
theorem tw6504582134900609121:True:=⟨⟩
theorem tw2712374233455685729:True:=⟨⟩
theorem tw2972644620762304641:True:=⟨⟩
theorem tw13290380757736300705:True:=⟨⟩
theorem tw13575995187113026753:True:=⟨⟩
theorem tw6530012807733104865:True:=⟨⟩
theorem tw10268713112201267553:True:=⟨⟩
theorem tw833542899700414849:True:=⟨⟩
theorem tw8901140541175826849:True:=⟨⟩
theorem tw13519204160143269345:True:=⟨⟩
theorem tw9651715570437480001:True:=⟨⟩
theorem tw7095287183610648161:True:=⟨⟩
theorem tw17302329914015951553:True:=⟨⟩
theorem tw8568299302538345185:True:=⟨⟩
theorem tw9955562873412306753:True:=⟨⟩
theorem tw17600972058799881057:True:=⟨⟩
theorem tw8933236413288654817:True:=⟨⟩
theorem tw488475185296565250:True:=⟨⟩
theorem tw16599650864774551586:True:=⟨⟩
theorem tw16184064153681461314:True:=⟨⟩
theorem tw6433062436804596802:True:=⟨⟩
theorem tw13567555330639045698:True:=⟨⟩
theorem tw4127910642013066306:True:=⟨⟩
theorem tw7037148194848103586:True:=⟨⟩
theorem tw8571475337660721602:True:=⟨⟩
theorem tw11411008316092700130:True:=⟨⟩
theorem tw8502023482271052290:True:=⟨⟩
theorem tw4966265842458756674:True:=⟨⟩
theorem tw7340932655017654882:True:=⟨⟩
theorem tw1477928115135349378:True:=⟨⟩
theorem tw13735409225972727458:True:=⟨⟩
theorem tw13189663230849460930:True:=⟨⟩
theorem tw12115094713407086306:True:=⟨⟩
theorem tw8432989155865076514:True:=⟨⟩
theorem tw9449978151708897186:True:=⟨⟩
theorem tw13458017233287831683:True:=⟨⟩
theorem tw14822284655790071971:True:=⟨⟩
theorem tw799582023851817123:True:=⟨⟩
theorem tw2269353288670439619:True:=⟨⟩
theorem tw16084395793783745731:True:=⟨⟩
theorem tw16656122696607653187:True:=⟨⟩
theorem tw7351957673664200035:True:=⟨⟩
theorem tw9627471640583912035:True:=⟨⟩
theorem tw5871695325031446243:True:=⟨⟩
theorem tw10821062950150792035:True:=⟨⟩
theorem tw3205367427133808515:True:=⟨⟩
theorem tw10046700815234177060:True:=⟨⟩
theorem tw7944169567755959332:True:=⟨⟩
theorem tw6431091030038230116:True:=⟨⟩
theorem tw3023786614771239044:True:=⟨⟩
theorem tw6211008326995926436:True:=⟨⟩
theorem tw9222002674263648804:True:=⟨⟩
theorem tw11898469272354298532:True:=⟨⟩
theorem tw9294554639081440004:True:=⟨⟩
theorem tw15915627392485165828:True:=⟨⟩
theorem tw16038166516910669572:True:=⟨⟩
theorem tw2116257945566481284:True:=⟨⟩
theorem tw18282532849532739492:True:=⟨⟩
theorem tw13778241699882246084:True:=⟨⟩
theorem tw13340010313855160260:True:=⟨⟩
theorem tw17432628719420865476:True:=⟨⟩
theorem tw21842033795734533:True:=⟨⟩
theorem tw14160483143106324485:True:=⟨⟩
theorem tw3628217375003675717:True:=⟨⟩
theorem tw684667720036227237:True:=⟨⟩
theorem tw4554361664749251781:True:=⟨⟩
theorem tw8214499709610616133:True:=⟨⟩
theorem tw13196793093968617829:True:=⟨⟩
theorem tw9668417599377097093:True:=⟨⟩
theorem tw15293131314958128549:True:=⟨⟩
theorem tw12243304670844321349:True:=⟨⟩
theorem tw1384822916091214533:True:=⟨⟩
theorem tw9427084665196787461:True:=⟨⟩
theorem tw4061950788516804421:True:=⟨⟩
theorem tw6421005828199131302:True:=⟨⟩
theorem tw6420576217308318982:True:=⟨⟩
theorem tw12147813710499723558:True:=⟨⟩
theorem tw795227528823199142:True:=⟨⟩
theorem tw855500515962170822:True:=⟨⟩
theorem tw10098688431436150278:True:=⟨⟩
theorem tw6897101782075253286:True:=⟨⟩
theorem tw9943519597578104358:True:=⟨⟩
theorem tw11863730430296765990:True:=⟨⟩
theorem tw7609265393202592326:True:=⟨⟩
theorem tw6247588784606392934:True:=⟨⟩
theorem tw16035037878487761574:True:=⟨⟩
theorem tw12311094241660566214:True:=⟨⟩
theorem tw430621101507448550:True:=⟨⟩
theorem tw3770338237838105318:True:=⟨⟩
theorem tw5935931805830782758:True:=⟨⟩
theorem tw1431952193993234278:True:=⟨⟩
theorem tw1129561472849869670:True:=⟨⟩
theorem tw11430643324513286118:True:=⟨⟩
theorem tw15398216364248017991:True:=⟨⟩
theorem tw16066795521156930663:True:=⟨⟩
theorem tw18134564452763888743:True:=⟨⟩
theorem tw9347683087090680999:True:=⟨⟩
theorem tw13992063505675303079:True:=⟨⟩
theorem tw1017088187723712871:True:=⟨⟩
theorem tw18022560902729181671:True:=⟨⟩
theorem tw13569313363934584391:True:=⟨⟩
theorem tw16768716123691218567:True:=⟨⟩
theorem tw2494892046727488199:True:=⟨⟩
theorem tw4871036877185578727:True:=⟨⟩
theorem tw10426616232866289479:True:=⟨⟩
theorem tw2292404692989927303:True:=⟨⟩
theorem tw6751357663542945928:True:=⟨⟩
theorem tw12384787805235928200:True:=⟨⟩
theorem tw12210510615654566088:True:=⟨⟩
theorem tw10569843093380720904:True:=⟨⟩
theorem tw743673268324135208:True:=⟨⟩
theorem tw3992698470513842600:True:=⟨⟩
theorem tw6057545974165398184:True:=⟨⟩
theorem tw8678777448329852840:True:=⟨⟩
theorem tw6148607342788317289:True:=⟨⟩
theorem tw11328419170870226057:True:=⟨⟩
theorem tw16075543214008895753:True:=⟨⟩
theorem tw15034321504390448457:True:=⟨⟩
theorem tw7796558587967406665:True:=⟨⟩
theorem tw8228888068681097897:True:=⟨⟩
theorem tw16402319581450644201:True:=⟨⟩
theorem tw15450648268336993065:True:=⟨⟩
theorem tw10753107202584744841:True:=⟨⟩
theorem tw14618343879286280105:True:=⟨⟩
theorem tw4586000712258381801:True:=⟨⟩
theorem tw8574997539761781737:True:=⟨⟩
theorem tw8368851071760526410:True:=⟨⟩
theorem tw11711743411308122218:True:=⟨⟩
theorem tw10223099507732144266:True:=⟨⟩
theorem tw18307171984421209322:True:=⟨⟩
theorem tw6560152257746047242:True:=⟨⟩
theorem tw17573329419519234378:True:=⟨⟩
theorem tw8999247543138399594:True:=⟨⟩
theorem tw11474279375042826602:True:=⟨⟩
theorem tw2133344053403352650:True:=⟨⟩
theorem tw3522749483415426858:True:=⟨⟩
theorem tw10712986789813466986:True:=⟨⟩
theorem tw8110455304181288906:True:=⟨⟩
theorem tw3945658845312068619:True:=⟨⟩
theorem tw266367912633471019:True:=⟨⟩
theorem tw10674752144692082827:True:=⟨⟩
theorem tw15190994995035286667:True:=⟨⟩
theorem tw13145748725715211435:True:=⟨⟩
theorem tw2048538468633976107:True:=⟨⟩
theorem tw10430303256042733899:True:=⟨⟩
theorem tw863722561646813643:True:=⟨⟩
theorem tw5653919996429508075:True:=⟨⟩
theorem tw17253433973447583435:True:=⟨⟩
theorem tw15569412999995909867:True:=⟨⟩
theorem tw14395652763740015403:True:=⟨⟩
theorem tw13256290317393667947:True:=⟨⟩
theorem tw14245923645001184171:True:=⟨⟩
theorem tw6455731214674812940:True:=⟨⟩
theorem tw1625219703592953004:True:=⟨⟩
theorem tw17067076534707376556:True:=⟨⟩
theorem tw4178131852657212876:True:=⟨⟩
theorem tw1525691108730635724:True:=⟨⟩
theorem tw16156855720110998028:True:=⟨⟩
theorem tw13694025716324319788:True:=⟨⟩
theorem tw12433193084687140492:True:=⟨⟩
theorem tw10804123539314113260:True:=⟨⟩
theorem tw6862270217020369708:True:=⟨⟩
theorem tw6236570531182024524:True:=⟨⟩
theorem tw13688524000415934316:True:=⟨⟩
theorem tw3723596777580576652:True:=⟨⟩
theorem tw16689647219392081804:True:=⟨⟩
theorem tw15103908165745741740:True:=⟨⟩
theorem tw2374805875028353004:True:=⟨⟩
theorem tw14448143498524596397:True:=⟨⟩
theorem tw15100736009042438445:True:=⟨⟩
theorem tw15416883699700093293:True:=⟨⟩
theorem tw5957385181209013741:True:=⟨⟩
theorem tw7740394613107695117:True:=⟨⟩
theorem tw15160487295530607117:True:=⟨⟩
theorem tw13624463873238435373:True:=⟨⟩
theorem tw2592891197503318605:True:=⟨⟩
theorem tw6985927602621716141:True:=⟨⟩
theorem tw1339090192516768429:True:=⟨⟩
theorem tw3643650441114143469:True:=⟨⟩
theorem tw493887609271562061:True:=⟨⟩
theorem tw10559552759681221485:True:=⟨⟩
theorem tw6937337011112977261:True:=⟨⟩
theorem tw14121188884465107821:True:=⟨⟩
theorem tw8746113000329221069:True:=⟨⟩
theorem tw13516654614177845197:True:=⟨⟩
theorem tw15549544415788116973:True:=⟨⟩
theorem tw15229515868653737965:True:=⟨⟩
theorem tw6718543733232894957:True:=⟨⟩
theorem tw3480831664390891566:True:=⟨⟩
theorem tw15459972389309788334:True:=⟨⟩
theorem tw2865128998410507502:True:=⟨⟩
theorem tw11580121107192894702:True:=⟨⟩
theorem tw4575866106085342574:True:=⟨⟩
theorem tw276338387897334158:True:=⟨⟩
theorem tw7400257907177597358:True:=⟨⟩
theorem tw9616748490289776078:True:=⟨⟩
theorem tw7049608002488587758:True:=⟨⟩
theorem tw15757090601318001134:True:=⟨⟩
theorem tw11779269781822919214:True:=⟨⟩
theorem tw17434479605382674094:True:=⟨⟩
theorem tw10021315182751665902:True:=⟨⟩
theorem tw3710237326272309102:True:=⟨⟩
theorem tw14996081547398327246:True:=⟨⟩
theorem tw9958701232057620527:True:=⟨⟩
theorem tw4138949167933707343:True:=⟨⟩
theorem tw2149259429841396847:True:=⟨⟩
theorem tw2482562679080469679:True:=⟨⟩
theorem tw16246926207930217679:True:=⟨⟩
theorem tw9662380400084348143:True:=⟨⟩
theorem tw11430652862732468527:True:=⟨⟩
theorem tw11645226039708467535:True:=⟨⟩
theorem tw2319309220102735311:True:=⟨⟩
theorem tw7684051156841056815:True:=⟨⟩
theorem tw6833947187902658159:True:=⟨⟩
theorem tw6660072525179182735:True:=⟨⟩
theorem tw11765952915152042735:True:=⟨⟩
theorem tw17209477026961000335:True:=⟨⟩
theorem tw11394715463278957487:True:=⟨⟩
theorem tw11829738796122157072:True:=⟨⟩
theorem tw12850832141407598608:True:=⟨⟩
theorem tw14033108894471853200:True:=⟨⟩
theorem tw14051379461283294352:True:=⟨⟩
theorem tw7655146076658184336:True:=⟨⟩
theorem tw1910932739150361776:True:=⟨⟩
theorem tw5258418747159984336:True:=⟨⟩
theorem tw16571127637224268176:True:=⟨⟩
theorem tw1138490852209017264:True:=⟨⟩
theorem tw14218698659570310576:True:=⟨⟩
theorem tw16330606803665094128:True:=⟨⟩
theorem tw2240760212141030960:True:=⟨⟩
theorem tw11751743047238995504:True:=⟨⟩
theorem tw16318993682793177712:True:=⟨⟩
theorem tw8504889030739962544:True:=⟨⟩
theorem tw10290455075933910704:True:=⟨⟩
theorem tw10622962829016845168:True:=⟨⟩
theorem tw4566458555567197072:True:=⟨⟩
theorem tw16995189239823394704:True:=⟨⟩
theorem tw11142003654373905328:True:=⟨⟩
theorem tw18014142272014831568:True:=⟨⟩
theorem tw18378993135558127568:True:=⟨⟩
theorem tw8927038391942869968:True:=⟨⟩
theorem tw415984943654542320:True:=⟨⟩
theorem tw17766697092364503377:True:=⟨⟩
theorem tw16287307577066399057:True:=⟨⟩
theorem tw11471873285746898321:True:=⟨⟩
theorem tw15108040528064505361:True:=⟨⟩
theorem tw13572549627557631537:True:=⟨⟩
theorem tw12986105820494799473:True:=⟨⟩
theorem tw11795978771348058833:True:=⟨⟩
theorem tw16766142908597875409:True:=⟨⟩
theorem tw14122979361096438545:True:=⟨⟩
theorem tw2124210255565772657:True:=⟨⟩
theorem tw15836248586026019761:True:=⟨⟩
theorem tw16348405608010151889:True:=⟨⟩
theorem tw12586651724141117522:True:=⟨⟩
theorem tw6365073591628720306:True:=⟨⟩
theorem tw4634598291725483218:True:=⟨⟩
theorem tw6770514913124461810:True:=⟨⟩
theorem tw8308451682169680210:True:=⟨⟩
theorem tw5285039819608262098:True:=⟨⟩
theorem tw17186563115856490098:True:=⟨⟩
theorem tw8550821156447258258:True:=⟨⟩
theorem tw16399110194197204754:True:=⟨⟩
theorem tw5659084922735062802:True:=⟨⟩
theorem tw13563083189082920754:True:=⟨⟩
theorem tw6292269474458106802:True:=⟨⟩
theorem tw10786567722763170770:True:=⟨⟩
theorem tw7958681795749219314:True:=⟨⟩
theorem tw7670330054057623635:True:=⟨⟩
theorem tw11528067722186790995:True:=⟨⟩
theorem tw10529754724934727763:True:=⟨⟩
theorem tw11235275306012855475:True:=⟨⟩
theorem tw16065725830600485043:True:=⟨⟩
theorem tw1075214414641329331:True:=⟨⟩
theorem tw5144592256755188947:True:=⟨⟩
theorem tw4769472623775320339:True:=⟨⟩
theorem tw17129159099153113395:True:=⟨⟩
theorem tw13936212411220995411:True:=⟨⟩
theorem tw1993947633409635667:True:=⟨⟩
theorem tw14918524144499680627:True:=⟨⟩
theorem tw11474649634715733459:True:=⟨⟩
theorem tw15278541977614132723:True:=⟨⟩
theorem tw12524010849438245587:True:=⟨⟩
theorem tw2647403005354009395:True:=⟨⟩
theorem tw3076612664854802387:True:=⟨⟩
theorem tw8557475936999211092:True:=⟨⟩
theorem tw11422522877523744852:True:=⟨⟩
theorem tw6464967651661800564:True:=⟨⟩
theorem tw16475233486409637076:True:=⟨⟩
theorem tw2604402732987787604:True:=⟨⟩
theorem tw12329847623736575316:True:=⟨⟩
theorem tw16434871711383229876:True:=⟨⟩
theorem tw514202932196410836:True:=⟨⟩
theorem tw10284624048588648916:True:=⟨⟩
theorem tw12463787358997914196:True:=⟨⟩
theorem tw6245630042152669812:True:=⟨⟩
theorem tw3563590139678231284:True:=⟨⟩
theorem tw11831923601052444404:True:=⟨⟩
theorem tw11535955426755164980:True:=⟨⟩
theorem tw13838749683403205492:True:=⟨⟩
theorem tw13585917610486497140:True:=⟨⟩
theorem tw14859043336962248596:True:=⟨⟩
theorem tw10059260932107918485:True:=⟨⟩
theorem tw10993092261587284117:True:=⟨⟩
theorem tw9442303533920791957:True:=⟨⟩
theorem tw10315455408543371765:True:=⟨⟩
theorem tw11092351872323119637:True:=⟨⟩
theorem tw17017227907002722837:True:=⟨⟩
theorem tw17551243494198217269:True:=⟨⟩
theorem tw7367192216305767989:True:=⟨⟩
theorem tw6801785999393783573:True:=⟨⟩
theorem tw2360181700893522741:True:=⟨⟩
theorem tw17747141004219332405:True:=⟨⟩
theorem tw8465661412554073909:True:=⟨⟩
theorem tw9369539325921896373:True:=⟨⟩
theorem tw2576023483420795829:True:=⟨⟩
theorem tw16852793118814277718:True:=⟨⟩
theorem tw10595685000676103318:True:=⟨⟩
theorem tw6793639107943147734:True:=⟨⟩
theorem tw5554545217993625910:True:=⟨⟩
theorem tw17700446498876549430:True:=⟨⟩
theorem tw17245043926043964790:True:=⟨⟩
theorem tw8410180108027447702:True:=⟨⟩
theorem tw15982465620089326998:True:=⟨⟩
theorem tw11552451032195114454:True:=⟨⟩
theorem tw10349159918350277142:True:=⟨⟩
theorem tw9494647543467589174:True:=⟨⟩
theorem tw15483443061100379030:True:=⟨⟩
theorem tw18129719514985133175:True:=⟨⟩
theorem tw12073245394499823735:True:=⟨⟩
theorem tw5729976393400587447:True:=⟨⟩
theorem tw7937001817331267831:True:=⟨⟩
theorem tw5770234715662803255:True:=⟨⟩
theorem tw8037326147403244855:True:=⟨⟩
theorem tw6411149633065261431:True:=⟨⟩
theorem tw1825975051070570935:True:=⟨⟩
theorem tw1714631252237570487:True:=⟨⟩
theorem tw18303873721601020375:True:=⟨⟩
theorem tw2269619597693277719:True:=⟨⟩
theorem tw133562736509990551:True:=⟨⟩
theorem tw17317691924519266007:True:=⟨⟩
theorem tw5568864963331327863:True:=⟨⟩
theorem tw10691550285869292439:True:=⟨⟩
theorem tw16848898427650219032:True:=⟨⟩
theorem tw15458237775724371096:True:=⟨⟩
theorem tw8458092188802975928:True:=⟨⟩
theorem tw2384514112262579480:True:=⟨⟩
theorem tw1841199689432356120:True:=⟨⟩
theorem tw7604904187351486808:True:=⟨⟩
theorem tw11563945758534101336:True:=⟨⟩
theorem tw10220163624060874104:True:=⟨⟩
theorem tw9560633782904767000:True:=⟨⟩
theorem tw16211744714085601880:True:=⟨⟩
theorem tw9412261480382297784:True:=⟨⟩
theorem tw16820532585567051448:True:=⟨⟩
theorem tw13952601069208568536:True:=⟨⟩
theorem tw4085214548255574904:True:=⟨⟩
theorem tw4792415828684692440:True:=⟨⟩
theorem tw3558506909676789913:True:=⟨⟩
theorem tw16105205369866738841:True:=⟨⟩
theorem tw5760795290119022809:True:=⟨⟩
theorem tw17138694145082719449:True:=⟨⟩
theorem tw10949061629293707513:True:=⟨⟩
theorem tw15182644472968739065:True:=⟨⟩
theorem tw13641951134951993657:True:=⟨⟩
theorem tw5478220552584486265:True:=⟨⟩
theorem tw18066033807714313721:True:=⟨⟩
theorem tw12912469816659808793:True:=⟨⟩
theorem tw11751863236993026713:True:=⟨⟩
theorem tw3763199491125719737:True:=⟨⟩
theorem tw8892197877253333753:True:=⟨⟩
theorem tw6366373125627228953:True:=⟨⟩
theorem tw10067343380726428505:True:=⟨⟩
theorem tw1957216811172288345:True:=⟨⟩
theorem tw8661074231596623769:True:=⟨⟩
theorem tw268962076340625337:True:=⟨⟩
theorem tw11663961871317907385:True:=⟨⟩
theorem tw10396994760941270969:True:=⟨⟩
theorem tw6356839399075437722:True:=⟨⟩
theorem tw11203897712874390714:True:=⟨⟩
theorem tw11804870402870983930:True:=⟨⟩
theorem tw788295486469936442:True:=⟨⟩
theorem tw8450312401927782906:True:=⟨⟩
theorem tw9690359726576977402:True:=⟨⟩
theorem tw11925574497697550874:True:=⟨⟩
theorem tw2765945625036729018:True:=⟨⟩
theorem tw9219791678987992794:True:=⟨⟩
theorem tw2458364403224036346:True:=⟨⟩
theorem tw1507978669924104411:True:=⟨⟩
theorem tw16645940657663442139:True:=⟨⟩
theorem tw14204806220548367707:True:=⟨⟩
theorem tw772415783294612859:True:=⟨⟩
theorem tw3331539558895817179:True:=⟨⟩
theorem tw14348496483197588027:True:=⟨⟩
theorem tw15924464542600297083:True:=⟨⟩
theorem tw16993991025810833019:True:=⟨⟩
theorem tw18331771494017112827:True:=⟨⟩
theorem tw14203108621295169499:True:=⟨⟩
theorem tw17424132897062513659:True:=⟨⟩
theorem tw12448001571853889564:True:=⟨⟩
theorem tw10395106028995755068:True:=⟨⟩
theorem tw1820202010333730972:True:=⟨⟩
theorem tw16906351933175753980:True:=⟨⟩
theorem tw9988569306160898364:True:=⟨⟩
theorem tw17504740679541069148:True:=⟨⟩
theorem tw9768601090364071292:True:=⟨⟩
theorem tw4792860545382018460:True:=⟨⟩
theorem tw17797629414886613436:True:=⟨⟩
theorem tw12276999747110695356:True:=⟨⟩
theorem tw2008901314151942620:True:=⟨⟩
theorem tw117772101652125212:True:=⟨⟩
theorem tw14606391227569628732:True:=⟨⟩
theorem tw12130618372824664668:True:=⟨⟩
theorem tw16778875436838327964:True:=⟨⟩
theorem tw9189034011959508700:True:=⟨⟩
theorem tw12315406690500143868:True:=⟨⟩
theorem tw2864829030654463740:True:=⟨⟩
theorem tw5589012813709658908:True:=⟨⟩
theorem tw903928942829683548:True:=⟨⟩
theorem tw8045280822251334524:True:=⟨⟩
theorem tw15430862210746154908:True:=⟨⟩
theorem tw10946167801222320060:True:=⟨⟩
theorem tw3881003467660632349:True:=⟨⟩
theorem tw9312052947277258109:True:=⟨⟩
theorem tw11046843673455800701:True:=⟨⟩
theorem tw8004725006505639325:True:=⟨⟩
theorem tw5386368639199516221:True:=⟨⟩
theorem tw865686916183006877:True:=⟨⟩
theorem tw15500306613981020893:True:=⟨⟩
theorem tw15648209789903091421:True:=⟨⟩
theorem tw6723650044129238781:True:=⟨⟩
theorem tw9094640369360697085:True:=⟨⟩
theorem tw8372701967526035229:True:=⟨⟩
theorem tw8345033947361364765:True:=⟨⟩
theorem tw15120523049594793789:True:=⟨⟩
theorem tw2267365317681940349:True:=⟨⟩
theorem tw4114669294472605565:True:=⟨⟩
theorem tw16266731239663985533:True:=⟨⟩
theorem tw5147296044535316349:True:=⟨⟩
theorem tw5328380778918285277:True:=⟨⟩
theorem tw6306705623891315709:True:=⟨⟩
theorem tw1608385296029886558:True:=⟨⟩
theorem tw12414138752100650142:True:=⟨⟩
theorem tw9866130570244195550:True:=⟨⟩
theorem tw10679539357167101214:True:=⟨⟩
theorem tw6780707344085562686:True:=⟨⟩
theorem tw8404263012235000158:True:=⟨⟩
theorem tw4579112318935863646:True:=⟨⟩
theorem tw8496914615735346558:True:=⟨⟩
theorem tw10738482886525126046:True:=⟨⟩
theorem tw5959266232637176222:True:=⟨⟩
theorem tw18298471817258654110:True:=⟨⟩
theorem tw16181107601943111102:True:=⟨⟩
theorem tw2569247117857665502:True:=⟨⟩
theorem tw4346353500510221822:True:=⟨⟩
theorem tw13556089017022349886:True:=⟨⟩
theorem tw8615603816673242686:True:=⟨⟩
theorem tw10161494538589721182:True:=⟨⟩
theorem tw17256643098709518942:True:=⟨⟩
theorem tw16002071882816609918:True:=⟨⟩
theorem tw11758948169252771518:True:=⟨⟩
theorem tw4008891353278723838:True:=⟨⟩
theorem tw15132644194679703390:True:=⟨⟩
theorem tw7247789607994778462:True:=⟨⟩
theorem tw9805192765176748030:True:=⟨⟩
theorem tw17883232764436903999:True:=⟨⟩
theorem tw13070556128062113919:True:=⟨⟩
theorem tw9093712005622141119:True:=⟨⟩
theorem tw98141043496167647:True:=⟨⟩
theorem tw15832537868931560703:True:=⟨⟩
theorem tw3868883171155353983:True:=⟨⟩
theorem tw9138076807430293919:True:=⟨⟩
theorem tw9387236091500635615:True:=⟨⟩
theorem tw11085461370709812735:True:=⟨⟩
theorem tw6556997470297507391:True:=⟨⟩
theorem tw10294661313208251967:True:=⟨⟩
theorem tw13850226456267810431:True:=⟨⟩
theorem tw5498721705828464287:True:=⟨⟩
theorem tw571468844617861983:True:=⟨⟩
theorem tw5148474530241830751:True:=⟨⟩
theorem tw15559905435833428863:True:=⟨⟩
theorem tw13394038239573277599:True:=⟨⟩
theorem tw3809095017423899615:True:=⟨⟩
theorem tw4459237488347007999:True:=⟨⟩
theorem tw7751305213316708358:True:=⟨⟩
theorem tw10622084947278498287:True:=⟨⟩
theorem tw18036808888678832021:True:=⟨⟩
theorem tw119439242862239453:True:=⟨⟩
theorem tw9990508929683308535:True:=⟨⟩
theorem tw6853511857807799688:True:=⟨⟩
theorem tw13990724609193552712:True:=⟨⟩
theorem tw16942765395313965893:True:=⟨⟩
theorem tw2054756332767746970:True:=⟨⟩
end hz
theorem AllIn.chunk {L:Frag} (n:Nat):∀ {K:Frag},(K.take n).map (fun p=>L.lookup p.1)=(K.take n).map (fun p=>some p.2)→AllIn (K.drop n) L→AllIn K L:=by
 induction n with
 |zero=>exact fun z k=>k
 |succ n ih=>
  intro K h k
  induction K with
  |nil=>trivial
  |cons p K _=>exact⟨(List.cons.inj h).1,ih (List.cons.inj h).2 k⟩
set_option maxRecDepth 100000 in
set_option maxHeartbeats 0 in
theorem hz:PySem.Challenge.rw_ij0066_01.Holds:=by
 w_on;o_law;z_head
 case hw=>w_witness2
 k_fill
 intro w s₀ s₁ mg mb G y fa o pm cd doc dV kV ho hd hcd hD hmg hg args vals as L hpre hlay hrd hwl hlo
 z_open y L KX ZH ZN ZT
 refine Ground.open G ?_
 intro T B D TE TW
 wrow_args hpre hlay hrd hwl hlo
 obtain⟨hat,hsz⟩:=script_at L
 have htk:=script_toks L ZT
 rename_i ns hs hlay0 hL1 hr1 hl2 de Yk a vs as hL ra w1 r0 hI hr hc1 hc2
 have kin:(Internal.K0 w.params).In s₁.heap:=by
  have hA:Internal.AllIn (Internal.K0 w.params) (hz.heap_1_395 w.params):=by
   refine AllIn.chunk 89 (by kernel_rfl) ?_
   refine And.intro (Internal.GS (Internal.bX w.params) Internal.YX (by kernel_rfl) (by kernel_rfl) (by kernel_rfl)) ?_
   refine AllIn.chunk 6 (by kernel_rfl) ?_
   refine And.intro (Internal.GS (Internal.bY w.params) Internal.YY (by kernel_rfl) (by kernel_rfl) (by kernel_rfl)) ?_
   refine AllIn.chunk 2 (by kernel_rfl) ?_
   refine And.intro (Internal.GS (Internal.bZ w.params) Internal.YZ (by kernel_rfl) (by kernel_rfl) (by kernel_rfl)) ?_
   refine AllIn.chunk 21 (by kernel_rfl) ?_
   refine And.intro (Internal.GS (Internal.ba w.params) Internal.Ya (by kernel_rfl) (by kernel_rfl) (by kernel_rfl)) ?_
   refine AllIn.chunk 8 (by kernel_rfl) ?_
   exact trivial
  exact fun a o e=>KX a o (hA.sub a o e)
 have S:Internal.Gr w mg mb s₁.heap:=by
  refine⟨kin,T.g,T.b,T.builtins,T.nolimit,⟨_,.of_isNs (isNs_of_in KX (by kernel_rfl)),nsMap_none_of_in KX (by kernel_rfl) (by kernel_rfl)⟩,⟨_,.of_isNs (isNs_of_in KX (by kernel_rfl)),nsMap_none_of_in KX (by kernel_rfl) (by kernel_rfl)⟩,T.bmain,fun P hP=>?_⟩
  simp only [Internal.Cd,List.mem_cons,List.not_mem_nil,or_false]at hP
  rcases hP with rfl | rfl | rfl | rfl<;>exact KX _ _ (by kernel_rfl)
 have hfa:fa=450:=by
  have e1:=S.gW
  have e2:mg (Str.ofString "law")=some (.ref fa):=hmg
  rw [e1]at e2;cases e2;rfl
 subst hfa
 show wpAny (model Internal.PR w) callerA (call (.ref 450) [.ref a]) _ _ s₁
 refine UE S (Nat.lt_of_lt_of_le (by decide) htk) hg hL hI (by omega) (Internal.Ry ns) fun s' hK hos hb=>⟨.inl ⟨.bool true,.bool true,[],rfl,fun z=>rfl,.bool true,UG _,fun z=>⟨List.nodup_nil,fun a h=>by cases h⟩⟩,hK,hos,hb⟩
end
end Mine.Internal
set_option maxRecDepth 100000 in
theorem PySem.Challenge.cw_ij0066_01_holds : PySem.Challenge.rw_ij0066_01.Holds := by
  exact Mine.Internal.hz
